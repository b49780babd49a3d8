import Derived.Test.Qxb6001230aModsRows
import Derived.WalkKit
import Derived.WalkSpells
import Derived.WalkLawsBesides
import Derived.ProofKit
import Derived.Laws.StandIn
import Derived.Lib.Bytealg
import Derived.Laws.AppendOwnNone
import Derived.Deep.DeepCutAuto
namespace Go.Proofs.Qxb6001230aMods
open Go.RowKit

theorem ret_int {k : IntKind} {a b : Int} (h : a = b) : Ending.returned (.int k a) = .returned (.int k b) := by rw [h]
theorem ret_bool {a b : Bool} (h : a = b) : Ending.returned (.bool a) = .returned (.bool b) := by rw [h]
theorem hidE {p : Prop} (h : p) : Hid p := h
theorem Trym.info5 : (Trym.prog.info? 5).map (fun i => (i.zero, i.size, i.bytes)) = some (some (.int .u8 0), 1, 1) := by kernel_rfl

/-- a row of bytes: its cells -/
def Ln (w : World) (a : Option Addr) (zs : List Int) : Prop :=
  zs = [] ∨ ∃ b off, a = some ⟨b, off, none⟩ ∧ ∀ k, k < zs.length → w.cell? ⟨b, off + k, none⟩ = some (.int .u8 (zs.getD k 0))
theorem cell_lt {w : World} {p : Addr} {v : Value} (h : w.cell? p = some v) : p.block < w.heap.size := by
  rcases Nat.lt_or_ge p.block w.heap.size with h' | h'
  · exact h'
  · simp [World.cell?, Array.getElem?_eq_none h'] at h
theorem Ln.below {w w' : World} {a : Option Addr} {zs : List Int} (h : Ln w a zs) (hb : Below w.heap.size w w') : Ln w' a zs := by
  rcases h with h | ⟨b, off, h1, h3⟩
  · exact .inl h
  · exact .inr ⟨b, off, h1, fun k hk => (hb.cell (p := ⟨b, off + k, none⟩) (cell_lt (h3 k hk))).trans (h3 k hk)⟩

/-- bytes as cells (a name of its own) -/
def u8s (zs : List Int) : List Value := zs.map (Value.int .u8)
theorem u8s_append (Z Y : List Int) : u8s (Z ++ Y) = u8s Z ++ u8s Y := by simp [u8s]
theorem u8s_length (Z : List Int) : (u8s Z).length = Z.length := by simp [u8s]
theorem u8s_one (zs : List Int) : ∀ v ∈ u8s zs, v.oneCell' = true := by
  intro v hv
  simp only [u8s, List.mem_map] at hv
  obtain ⟨z, _, rfl⟩ := hv
  rfl
theorem u8s_get (zs : List Int) (j : Nat) (h : j < zs.length) : (u8s zs)[j]? = some (.int .u8 (zs.getD j 0)) := by
  simp [u8s, List.getElem?_eq_getElem h]

def SomeBool (w : World) (e : Ending) (w' : World) : Prop := ∃ r : Bool, e = .returned (.bool r) ∧ w' = w

theorem addr_plain {w : World} {x : Addr} {zs : List Int} (hn : 0 < zs.length) (h : ∀ k, k < zs.length → w.cell? (x.add k) = some (.int .u8 (zs.getD k 0))) :
    ∃ b off, x = ⟨b, off, none⟩ ∧ ∀ k, k < zs.length → w.cell? ⟨b, off + k, none⟩ = some (.int .u8 (zs.getD k 0)) := by
  obtain ⟨b, off, sp⟩ := x
  have hsp : sp = none := by simpa [Addr.add] using World.cell?_spot (h 0 hn)
  subst hsp
  refine ⟨b, off, rfl, fun k hk => ?_⟩
  have := h k hk
  rwa [Go.WideShapes.add_plain] at this

/-! the clone -/
def CloneP (w : World) (zs : List Int) (e : Ending) (w' : World) : Prop :=
  ∃ a' cap', e = .returned (.slice a' zs.length cap') ∧ zs.length ≤ cap' ∧ Below w.heap.size w w' ∧ Ln w' a' zs

/-- the new row, k of its bytes copied -/
def Cp (B : Nat) (w : World) (zs : List Int) (k : Nat) : Prop :=
  ∃ ys : List Int, w.ownsRow B 5 1 (.slice (some ⟨B, 0, none⟩) zs.length zs.length) zs.length (u8s ys) ∧ ys.length = zs.length ∧ ∀ j, j < k → ys.getD j 0 = zs.getD j 0

theorem Cp.start {B : Nat} {w1 : World} {zs : List Int} (h : w1.ownsRow B 5 1 (.slice (some ⟨B, 0, none⟩) zs.length zs.length) zs.length (madeCells (Value.int .u8 0).cells (zs.length * 1)).toList) : Cp B w1 zs 0 := by
  refine ⟨List.replicate zs.length 0, ?_, by simp, fun j hj => by omega⟩
  have e : (madeCells (Value.int .u8 0).cells (zs.length * 1)).toList = u8s (List.replicate zs.length (0 : Int)) := by
    unfold u8s
    apply List.ext_getElem
    · simp [madeCells]
    · intro i h1 h2
      simp [madeCells, Value.cells, Nat.mod_one]
  rwa [e] at h
theorem Cp.step {B : Nat} {w wr : World} {zs : List Int} {k : Nat} (hb : Below B w wr) (h : Cp B wr zs k) (hk : k < zs.length) :
    Below B w (wr.setCell ⟨B, k, none⟩ (.int .u8 (zs.getD k 0))) ∧ Cp B (wr.setCell ⟨B, k, none⟩ (.int .u8 (zs.getD k 0))) zs (k + 1) := by
  obtain ⟨ys, h1, h2, h3⟩ := h
  refine ⟨hb.setCell (Nat.le_refl _) _, ys.set k (zs.getD k 0), ?_, by simpa using h2, fun j hj => ?_⟩
  · have := (h1.stored k (.int .u8 (zs.getD k 0))).1
    unfold u8s at this ⊢
    rwa [← List.map_set] at this
  · by_cases e : j = k
    · subst e
      rw [List.getD_eq_getElem?_getD, List.getElem?_set_self (by omega)]
      rfl
    · rw [List.getD_eq_getElem?_getD, List.getElem?_set_ne (fun h => e h.symm), ← List.getD_eq_getElem?_getD]
      exact h3 j (by omega)
theorem Cp.at {B : Nat} {w : World} {zs : List Int} {k : Nat} (h : Cp B w zs k) (j : Nat) (hj : j < zs.length) : (∃ z : Int, w.cell? ⟨B, j, none⟩ = some (.int .u8 z)) ∧ w.frozen? ⟨B, j, none⟩ = false := by
  obtain ⟨ys, h1, h2, _⟩ := h
  have := h1.cellAt j (by omega)
  rw [u8s_get ys j (by omega)] at this
  exact ⟨⟨_, this⟩, h1.frozenAt j⟩
theorem Cp.done {B : Nat} {w : World} {zs : List Int} (h : Cp B w zs zs.length) : Ln w (some ⟨B, 0, none⟩) zs := by
  obtain ⟨ys, h1, h2, h3⟩ := h
  refine .inr ⟨B, 0, rfl, fun k hk => ?_⟩
  have := h1.cellAt k (by omega)
  rw [u8s_get ys k (by omega), h3 k hk] at this
  rw [Nat.zero_add]
  exact this

set_option maxHeartbeats 400000 in
theorem clone11 (ao : Option Addr) (zs : List Int) (c : Nat) (w : World) (hn : zs.length ≤ 1048576) (hnil : ao = none → zs = []) (hcell : ∀ x, ao = some x → ∀ k, k < zs.length → w.cell? (x.add k) = some (.int .u8 (zs.getD k 0))) :
    Calls Trym.prog 11 #[.slice ao zs.length c] w (CloneP w zs) := by
  have q22 : ∀ (w : World) (a : Option Addr) (n c n' c' : Nat), (binOp .eql 22 (.slice a n c) (.slice none n' c')).run Trym.prog w = .ok (.bool a.isNone) w := fun w a n c n' c' => Lib.run_eql_slice_nil w _ _ a n c n' c' Trym.underlying22
  obtain ⟨i0, hi, hz0, hz1, hz2⟩ := info_parts Trym.info5
  cases ao with
  | none =>
    have h0 := hnil rfl
    subst h0
    clear hnil hcell
    go_enter Trym.func11, Trym.ntmps11
    go_wp2
    go_ret
    exact ⟨none, 0, rfl, Nat.le_refl _, Below.refl _ _, .inl rfl⟩
  | some x =>
    have HX : Hid (∀ k, k < zs.length → w.cell? (x.add k) = some (.int .u8 (zs.getD k 0))) := hcell x rfl
    clear hnil hcell
    go_enter Trym.func11, Trym.ntmps11
    go_wp2_with (at_make; refine wpList_make_full _ rfl (.tmp 8) (.tmp 8) 22 rfl w.heap.size 5 i0 (.int .u8 0) 1 Trym.underlying22 hi hz0 hz1 .i64 .i64 _ _ zs.length rfl rfl rfl rfl (by rw [hz2]; omega) (by unfold maxLen; omega) (Nat.le_refl _) ?_; intro w1 hown hgrow; have hb1 : Below w.heap.size w w1 := (Below.refl _ _).grown hgrow (Nat.le_refl _) (fun k hk => by cases hk); have HO : Hid (Cp w.heap.size w1 zs 0) := Cp.start hown; clear hown hgrow)
    go_loopw [4] (fun t wr => ∃ k : Nat, k ≤ zs.length ∧ t = .int .i64 k ∧ Below w.heap.size w wr ∧ Hid (Cp w.heap.size wr zs k)) (fun t _ => zs.length - (intOf t).toNat)
    case atStart => exact ⟨0, Nat.zero_le _, rfl, hb1, HO⟩
    case round =>
      obtain ⟨k, hk, rfl, hbr, HR⟩ := hrel
      by_cases hlt : k < zs.length
      · obtain ⟨b, off, rfl, hc⟩ := addr_plain (by omega) HX.out
        have hck := hc k hlt
        have hckr := (hbr.cell (p := ⟨b, off + k, none⟩) (cell_lt hck)).trans hck
        obtain ⟨⟨z', hz'⟩, hfz⟩ := HR.out.at k hlt
        have HN := Cp.step hbr HR.out hlt
        obtain ⟨z, HZ⟩ : ∃ z, Hid (zs.getD k 0 = z) := ⟨_, rfl⟩
        rw [HZ.out] at hckr HN
        have HN1 : Hid (Below w.heap.size w (wr.setCell ⟨w.heap.size, k, none⟩ (.int .u8 z))) := HN.1
        have HN2 : Hid (Cp w.heap.size (wr.setCell ⟨w.heap.size, k, none⟩ (.int .u8 z)) zs (k + 1)) := HN.2
        clear hc hck HN
        go_wp2
        go_roundw
        case rel => exact ⟨k + 1, by omega, by go_num, HN1.out, HN2⟩
        case measure => simp [intOf]; omega
      · have hke : k = zs.length := by omega
        have HW : Hid (Ln wr (some ⟨w.heap.size, 0, none⟩) zs) := by have h := HR.out; rw [hke] at h; exact h.done
        clear hke
        go_wp2
        go_ret
        exact ⟨_, _, rfl, Nat.le_refl _, hbr, HW.out⟩
end Go.Proofs.Qxb6001230aMods
