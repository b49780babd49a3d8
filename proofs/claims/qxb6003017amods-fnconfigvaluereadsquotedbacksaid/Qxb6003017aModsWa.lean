import Derived.Test.Qxb6003017aModsRows
import Derived.WalkKit
import Derived.WalkSpells
import Derived.WalkLawsBesides
import Derived.Laws.StandIn
import Derived.Lib.Bytealg
import Derived.Laws.BytesArg
import Derived.Deep.AppendSrc
import Derived.Deep.DeepCutAuto
namespace Go.Proofs.Qxb6003017aMods
open Go.RowKit

theorem ret_int {k : IntKind} {a b : Int} (h : a = b) : Ending.returned (.int k a) = .returned (.int k b) := by rw [h]
theorem ret_bool {a b : Bool} (h : a = b) : Ending.returned (.bool a) = .returned (.bool b) := by rw [h]
theorem hidE {p : Prop} (h : p) : Hid p := h
theorem size_mk (a : Array UInt8) : (ByteArray.mk a).size = a.size := rfl

/-- a string's bytes, as numbers -/
def bl (s : ByteArray) : List Int := s.data.toList.map fun b => (b.toNat : Int)
theorem bl_length (s : ByteArray) : (bl s).length = s.size := by simp [bl]
theorem bl_at (s : ByteArray) (k : Nat) (h : k < s.size) : (s[k].toNat : Int) = (bl s).getD k 0 := by
  have h' : k < (bl s).length := by rw [bl_length]; exact h
  rw [List.getD_eq_getElem?_getD, List.getElem?_eq_getElem h']
  simp [bl, ByteArray.getElem_eq_getElem_data]
theorem bl_mem (s : ByteArray) : ∀ z ∈ bl s, 0 ≤ z ∧ z ≤ 255 := by
  intro z hz
  simp only [bl, List.mem_map] at hz
  obtain ⟨b, _, rfl⟩ := hz
  have := b.toNat_lt
  omega
theorem bl_nums (Z : List Int) (h : ∀ z ∈ Z, 0 ≤ z ∧ z ≤ 255) : bl (strOfNums Z) = Z := by
  unfold bl strOfNums
  simp only [List.map_map]
  conv => rhs; rw [← List.map_id Z]
  refine List.map_congr_left (fun z hz => ?_)
  have := h z hz
  simp
  omega
theorem nums_bl (s : ByteArray) : strOfNums (bl s) = s := by
  have e : (s.data.toList.map fun b => (b.toNat : Int)).map (fun n => UInt8.ofNat n.toNat) = s.data.toList := by
    rw [List.map_map]
    conv => rhs; rw [← List.map_id s.data.toList]
    refine List.map_congr_left (fun z _ => ?_)
    simp
  unfold bl strOfNums
  rw [e]

theorem Trym.info5 : (Trym.prog.info? 5).map (fun i => (i.zero, i.size, i.bytes)) = some (some (.int .u8 0), 1, 1) := by kernel_rfl

/-- bytes as cells (a name of its own) -/
def u8s (zs : List Int) : List Value := zs.map (Value.int .u8)
theorem u8s_append (Z Y : List Int) : u8s (Z ++ Y) = u8s Z ++ u8s Y := by simp [u8s]
theorem u8s_length (Z : List Int) : (u8s Z).length = Z.length := by simp [u8s]
theorem u8s_one (zs : List Int) : ∀ v ∈ u8s zs, v.oneCell' = true := by
  intro v hv
  simp only [u8s, List.mem_map] at hv
  obtain ⟨z, _, rfl⟩ := hv
  rfl

/-- v owns the bytes Z (v may be nil) -/
def OB (B : Nat) (w : World) (v : Value) (Z : List Int) : Prop :=
  ∃ a cap, v = .slice a Z.length cap ∧ w.ownsRow B 5 1 v Z.length (u8s Z)

theorem OB.nil (B : Nat) (w : World) : OB B w (.slice none 0 0) [] := ⟨none, 0, rfl, World.ownsRow_nil _ _ _ _⟩

theorem OB.of {B : Nat} {w : World} {v : Value} {Z : List Int} (h : w.ownsRow B 5 1 v Z.length (u8s Z)) : OB B w v Z := by
  have h' := h
  obtain ⟨_, h2⟩ := h
  rcases h2 with ⟨rfl, h2⟩ | ⟨g, cap, cur, rfl, _⟩
  · exact ⟨none, 0, by rw [h2], h'⟩
  · exact ⟨_, cap, rfl, h'⟩

theorem OB.conv {B : Nat} {w : World} {a : Option Addr} {cap : Nat} {Z : List Int} (h : w.ownsRow B 5 1 (.slice a Z.length cap) Z.length (u8s Z)) :
    (convert 26 9 (.slice a Z.length cap)).run Trym.prog w = .ok (.string (strOfNums Z)) w := by
  have h' := h
  obtain ⟨_, h2⟩ := h
  rcases h2 with ⟨e, h2⟩ | ⟨g, cap', cur, e, _⟩
  · simp only [Value.slice.injEq] at e
    have hZ : Z = [] := List.eq_nil_of_length_eq_zero h2
    subst hZ
    rw [e.1, run_convert_bytes_nil w 26 5 Trym.underlying26 Trym.underlying5 _ _ 9 Trym.underlying9]
    rfl
  · simp only [Value.slice.injEq, true_and] at e
    obtain ⟨rfl, rfl⟩ := e
    refine run_convert_bytes_arg w 26 5 Trym.underlying26 Trym.underlying5 g 0 Z.length cap Z rfl (fun i hi => ?_) 9 Trym.underlying9
    have := h'.cellAt i (by omega)
    rw [u8s, List.getElem?_map, List.getElem?_eq_getElem hi] at this
    rw [Nat.zero_add, this, List.getD_eq_getElem?_getD, List.getElem?_eq_getElem hi]
    rfl

theorem app_step {B : Nat} {w0 w w3 : World} {v v' : Value} {Z Y : List Int} {o : Obj} (hown : w.ownsRow B 5 1 v Z.length (u8s Z)) (hown' : w3.ownsRow B 5 1 v' (Z.length + Y.length) (u8s Z ++ u8s Y))
    (hg : (w.alloc o).grownBy w3 v.ownBlock) (hb : Below B w0 w) (hB : B ≤ w.heap.size) : OB B w3 v' (Z ++ Y) ∧ Below B w0 w3 := by
  refine ⟨?_, (hb.alloc hB o).grown hg (by simp; omega) (fun k hk => (hown.lt k hk).1)⟩
  refine OB.of ?_
  rw [List.length_append, u8s_append]
  exact hown'

/-- the cells of a new block -/
theorem new_cells (w : World) (Y : List Int) (t : TypeId) : ∀ j u, (u8s Y)[j]? = some u → (w.alloc (.cells (u8s Y).toArray t)).cell? ((⟨w.heap.size, 0, none⟩ : Addr).add j) = some u := by
  intro j u hj
  have e : (⟨w.heap.size, 0, none⟩ : Addr).add j = ⟨w.heap.size, j, none⟩ := by unfold Addr.add; split <;> simp_all
  rw [e, World.cell?_alloc_mark]
  simpa using hj

/-! 'append(b, s...)', s a string, b the call's own -/
theorem own_push1 {w : World} {B g n cap : Nat} {xs : List Value} (h : w.ownsRow B 5 1 (.slice (some ⟨g, 0, none⟩) n cap) n xs) (hr : n + 1 ≤ cap) (u : Value) :
    (w.setCell ⟨g, n, none⟩ u).ownsRow B 5 1 (.slice (some ⟨g, 0, none⟩) (n + 1) cap) (n + 1) (xs ++ [u]) := by
  obtain ⟨h1, h2⟩ := h
  rcases h2 with ⟨h2, _⟩ | ⟨g', cap', cur, hv, hg, hh, hn, hm, hs, ht⟩
  · cases h2
  · simp only [Value.slice.injEq, Option.some.injEq, Addr.mk.injEq, and_true, true_and] at hv
    obtain ⟨rfl, rfl⟩ := hv
    refine ⟨by simp [h1], .inr ⟨g, cap, cur.setIfInBounds n u, rfl, hg, ?_, hr, hm, by simpa using hs, ?_⟩⟩
    · have hlt := lt_of_block hh
      have h' : w.heap[g] = .cells cur 5 (0, 0) := by simpa [Array.getElem?_eq_getElem hlt] using hh
      show (w.heap.modify g _)[g]? = _
      rw [Array.getElem?_eq_getElem (by simpa using hlt), Array.getElem_modify_self, h']
      rfl
    · have hnc : n < cur.toList.length := by simp [hs]; omega
      rw [Array.toList_setIfInBounds, Nat.mul_one]
      rw [Nat.mul_one] at ht
      rw [List.take_succ_eq_append_getElem (by simpa using hnc), List.take_set_of_le (Nat.le_refl _), ht]
      simp
theorem own_push {B g cap : Nat} : ∀ (news xs : List Value) (n : Nat) (w : World), w.ownsRow B 5 1 (.slice (some ⟨g, 0, none⟩) n cap) n xs → n + news.length ≤ cap →
    (w.setCells g n news).ownsRow B 5 1 (.slice (some ⟨g, 0, none⟩) (n + news.length) cap) (n + news.length) (xs ++ news)
  | [], xs, n, w, h, _ => by simpa [World.setCells] using h
  | u :: r, xs, n, w, h, hr => by
    have h1 := own_push1 h (by simp at hr; omega) u
    have h2 := own_push r (xs ++ [u]) (n + 1) _ h1 (by simp at hr; omega)
    rw [World.setCells]
    rw [List.append_assoc, List.singleton_append] at h2
    have e : n + (u :: r).length = n + 1 + r.length := by simp; omega
    rw [e]
    exact h2
theorem grown_setCells {g : Nat} : ∀ (news : List Value) (n : Nat) (w : World), w.grownBy (w.setCells g n news) (some g)
  | [], _, w => ⟨rfl, rfl, rfl, Nat.le_refl _, fun _ _ _ => rfl⟩
  | u :: r, n, w => by
    have h := grown_setCells (g := g) r (n + 1) (w.setCell ⟨g, n, none⟩ u)
    have hz : (w.setCell ⟨g, n, none⟩ u).heap.size = w.heap.size := by simp [World.setCell]
    refine ⟨h.os, h.tape, h.output, by have := h.size; rw [hz] at this; exact this, fun k hk hne => ?_⟩
    rw [World.setCells, h.block k (by rw [hz]; exact hk) hne]
    exact Below.heap_setCell _ _ _ _ (fun e => hne (by rw [e]))

theorem byteCells_eq (s : ByteArray) : byteCells s = u8s (bl s) := by
  unfold byteCells u8s bl
  rw [List.map_map]
  rfl

theorem run_append_str (ty : TypeId) (w : World) (B n : Nat) (v : Value) (xs : List Value) (s : ByteArray) (hown : w.ownsRow B 5 1 v n xs) (hn : 0 < n) (h1 : ∀ u ∈ xs, u.oneCell' = true) (hb : (n + s.size) ≤ 140737488355328) (hB : B ≤ w.heap.size) :
    ∃ v' w', (Builtin.append_ #[26, 9] ty #[v, .string s]).run Trym.prog w = .ok v' w' ∧ w'.ownsRow B 5 1 v' (n + s.size) (xs ++ byteCells s) ∧ w.grownBy w' v.ownBlock := by
  obtain ⟨i0, hi, hz0, hz1, hz2⟩ := info_parts Trym.info5
  have hown' := hown
  obtain ⟨hl, h2⟩ := hown
  rcases h2 with ⟨_, h2⟩ | ⟨g, cap, cur, rfl, hg, hh, hnc, hm, hs, ht⟩
  · omega
  have hbl := byteCells_length s
  have hsrc : Src Trym.prog i0.size 9 (.string s) s.size (byteCells s) w := by rw [hz1]; exact Src.ofString w Trym.underlying9 s
  by_cases hroom : n + s.size ≤ cap
  · have hr := run_append_room_src (P := Trym.prog) w 26 9 ty 5 i0 Trym.underlying26 hi g 0 n cap (.string s) s.size (byteCells s) hsrc hroom
      (fun j hj => by
        rw [hz1, Nat.mul_one, Nat.zero_add]
        have : n + j < cur.size := by rw [hs]; omega
        simp [World.cell?, hh, this])
      (fun j hj => by simp [World.frozen?, hh])
    rw [hz1, Nat.mul_one, Nat.zero_add] at hr
    refine ⟨_, _, hr, ?_, grown_setCells _ _ _⟩
    have := own_push (byteCells s) xs n w hown' (by omega)
    rw [hbl] at this
    exact this
  · have hold : (Builtin.firstCells i0.size n (.slice (some ⟨g, 0, none⟩) n cap)).run Trym.prog w.drew = .ok xs.toArray w.drew := by
      rw [hz1]
      exact (Src.ofSlice (P := Trym.prog) w (size := 1) (tx := 26) Trym.underlying26 ⟨g, 0, none⟩ n cap xs (by simpa using hl) (hown'.cells (g := g) rfl) h1).cellsD
    have hr := run_append_grow_src (P := Trym.prog) w 26 9 ty 5 i0 (.int .u8 0) Trym.underlying26 hi hz0 (some ⟨g, 0, none⟩) n cap xs hold (.string s) s.size (byteCells s) hsrc (by omega) (by omega) (growslice_fits (by omega) (by rw [hz2]; omega))
    have hge := grownCap_ge w (n + s.size) cap 5
    have hcm : grownCap w (n + s.size) cap 5 ≤ maxLen := grownCap_le_maxLen w (n + s.size) cap 5 (by unfold maxLen; omega)
    refine ⟨_, _, hr, ⟨by simp [hl, hbl], .inr ⟨w.heap.size, _, _, rfl, hB, heap_alloc_new w.drew _, hge, hcm, ?_, ?_⟩⟩, ⟨rfl, rfl, rfl, by simp, fun k hk _ => heap_alloc_old w.drew _ hk⟩⟩
    · simp only [Array.size_append, List.size_toArray, size_zeroCells, List.length_append, hl, hbl]
      simp [Value.cells]
      omega
    · simp only [Array.toList_append, List.append_assoc]
      rw [← List.append_assoc]
      have : (n + s.size) * 1 = (xs ++ byteCells s).length := by simp [hl, hbl]
      rw [this]
      exact List.take_left

theorem wpList_append_str {ops : Array Oper} {rest : List Oper} {o : Oper} {a : Act} {Q : Exit → Act → World → Prop} (w : World) (hgd : o.guard = none) (p q : Operand)
    (ho : o.op = .call { callee := .builtin .append, args := #[p, q], argTypes := #[26, 9] }) (B n : Nat) (v : Value) (xs : List Value) (s : ByteArray) (hp : a.eval p = v) (hq : a.eval q = .string s)
    (hown : w.ownsRow B 5 1 v n xs) (hn : 0 < n) (h1 : ∀ u ∈ xs, u.oneCell' = true) (hb : (n + s.size) ≤ 140737488355328) (hB : B ≤ w.heap.size)
    (h : ∀ v' w', w'.ownsRow B 5 1 v' (n + s.size) (xs ++ byteCells s) → w.grownBy w' v.ownBlock → wpList Trym.prog ops Q rest (a.put o.dst v') w') : wpList Trym.prog ops Q (o :: rest) a w := by
  refine wpList_plain hgd fun _ hK => ?_
  obtain ⟨v', w', hr, h2, h3⟩ := run_append_str o.type w B n v xs s hown hn h1 hb hB
  unfold Oper.wp execOp
  simp only [ho, resolve, invoke, builtin, Sem.run_bind, Sem.run_pure, Result.andThen_ok, List.map_toArray, List.map_cons, List.map_nil, hp, hq, hr]
  exact hK _ _ (h v' w' h2 h3)

theorem str_step {B : Nat} {w0 w w3 : World} {v v' : Value} {Z : List Int} {s : ByteArray} (hown : w.ownsRow B 5 1 v Z.length (u8s Z)) (hown' : w3.ownsRow B 5 1 v' (Z.length + s.size) (u8s Z ++ byteCells s))
    (hg : w.grownBy w3 v.ownBlock) (hb : Below B w0 w) (hB : B ≤ w.heap.size) : OB B w3 v' (Z ++ bl s) ∧ Below B w0 w3 := by
  refine ⟨OB.of ?_, hb.grown hg hB (fun k hk => (hown.lt k hk).1)⟩
  rw [List.length_append, u8s_append, bl_length, ← byteCells_eq]
  exact hown'
end Go.Proofs.Qxb6003017aMods
