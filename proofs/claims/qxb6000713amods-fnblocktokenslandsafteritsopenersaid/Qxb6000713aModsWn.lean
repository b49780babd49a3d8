import Derived.Test.Qxb6000713aModsWm
import Derived.ProofKit
namespace Go.Proofs.Qxb6000713aMods
open Go.RowKit

/-- some Bool came back, nothing turned (a name of its own) -/
def SomeBool (w : World) (e : Ending) (w' : World) : Prop := ∃ r : Bool, e = .returned (.bool r) ∧ w' = w

set_option maxHeartbeats 400000 in
theorem bytes33 (v1 v2 v3 : Int) (v4 : Bool) (i : Int) (a0 a5 : Option Addr) (n0 c0 n5 c5 : Nat) (w : World) (h0 : n0 ≤ maxLen) (h5 : n5 ≤ maxLen) :
    Calls Trym.prog 33 #[.slice a0 n0 c0, .int .i64 v1, .int .i64 v2, .int .i64 v3, .bool v4, .slice a5 n5 c5, .int .i64 i] w (SomeBool w) := by
  unfold maxLen at h0 h5
  go_enter Trym.func33, Trym.ntmps33
  go_wp2
  all_goals go_ret
  all_goals exact ⟨_, rfl, rfl⟩

theorem addr_plain {w : World} {x : Addr} {n : Nat} {P : Nat → Value → Prop} (hn : 0 < n) (h : ∀ k, k < n → ∃ v, w.cell? (x.add k) = some v ∧ P k v) :
    ∃ b off, x = ⟨b, off, none⟩ ∧ ∀ k, k < n → ∃ v, w.cell? ⟨b, off + k, none⟩ = some v ∧ P k v := by
  obtain ⟨b, off, sp⟩ := x
  have hsp : sp = none := by
    obtain ⟨v, hv, _⟩ := h 0 hn
    simpa [Addr.add] using World.cell?_spot hv
  subst hsp
  refine ⟨b, off, rfl, fun k hk => ?_⟩
  have := h k hk
  rwa [Go.WideShapes.add_plain] at this

/-- the clone of a slice of ints -/
def Clone (w : World) (n : Nat) (e : Ending) (w' : World) : Prop :=
  ∃ v, e = .returned v ∧ Below w.heap.size w w' ∧ Own w.heap.size w' v n

theorem clone_step {B g : Nat} {w wr : World} {n k : Nat} {z : Int} (hb : Below B w wr) (hg : B ≤ g) (h : ∃ ys : List Int, wr.ownsRow B 3 1 (.slice (some ⟨g, 0, none⟩) n n) n (ys.map (Value.int .i64)) ∧ ys.length = n) :
    Below B w (wr.setCell ⟨g, k, none⟩ (.int .i64 z)) ∧ ∃ ys : List Int, (wr.setCell ⟨g, k, none⟩ (.int .i64 z)).ownsRow B 3 1 (.slice (some ⟨g, 0, none⟩) n n) n (ys.map (Value.int .i64)) ∧ ys.length = n := by
  obtain ⟨ys, h1, h2⟩ := h
  refine ⟨hb.setCell hg _, ys.set k z, ?_, by simpa using h2⟩
  have := (h1.stored k (.int .i64 z)).1
  rwa [← List.map_set] at this

theorem clone_start {B g : Nat} {w1 : World} {n : Nat} (h : w1.ownsRow B 3 1 (.slice (some ⟨g, 0, none⟩) n n) n (madeCells (Value.int .i64 0).cells (n * 1)).toList) :
    ∃ ys : List Int, w1.ownsRow B 3 1 (.slice (some ⟨g, 0, none⟩) n n) n (ys.map (Value.int .i64)) ∧ ys.length = n := by
  refine ⟨List.replicate n 0, ?_, by simp⟩
  have e : (madeCells (Value.int .i64 0).cells (n * 1)).toList = (List.replicate n (0 : Int)).map (Value.int .i64) := by
    apply List.ext_getElem
    · simp [madeCells]
    · intro i h1 h2
      simp [madeCells, Value.cells, Nat.mod_one]
  rwa [e] at h

theorem row_cell {w : World} {B g n k : Nat} {ys : List Int} (h : w.ownsRow B 3 1 (.slice (some ⟨g, 0, none⟩) n n) n (ys.map (Value.int .i64))) (hl : ys.length = n) (hk : k < n) : ∃ z : Int, w.cell? ⟨g, k, none⟩ = some (.int .i64 z) := by
  have := h.cellAt k (by omega)
  rw [List.getElem?_map, List.getElem?_eq_getElem (by omega)] at this
  exact ⟨_, this⟩

set_option maxHeartbeats 400000 in
theorem clone14 (ao : Option Addr) (n c : Nat) (w : World) (hn : n ≤ 131072) (hnil : ao = none → n = 0) (hcell : ∀ x, ao = some x → ∀ k, k < n → ∃ v, w.cell? (x.add k) = some v ∧ ∃ z, v = .int .i64 z) :
    Calls Trym.prog 14 #[.slice ao n c] w (Clone w n) := by
  have q22 : ∀ (w : World) (a : Option Addr) (n c n' c' : Nat), (binOp .eql 22 (.slice a n c) (.slice none n' c')).run Trym.prog w = .ok (.bool a.isNone) w := fun w a n c n' c' => Lib.run_eql_slice_nil w _ _ a n c n' c' Trym.underlying22
  obtain ⟨i0, hi, hz0, hz1, hz2⟩ := info_parts Trym.info3
  cases ao with
  | none =>
    have h0 := hnil rfl
    subst h0
    clear hnil hcell
    go_enter Trym.func14, Trym.ntmps14
    go_wp2
    go_ret
    exact ⟨_, rfl, Below.refl _ _, .inl ⟨rfl, rfl⟩⟩
  | some x =>
    have HX : Hid (∀ k, k < n → ∃ v, w.cell? (x.add k) = some v ∧ ∃ z, v = .int .i64 z) := hcell x rfl
    clear hnil hcell
    go_enter Trym.func14, Trym.ntmps14
    go_wp2_with (at_make; refine wpList_make_full _ rfl (.tmp 8) (.tmp 8) 22 rfl w.heap.size 3 i0 (.int .i64 0) 1 Trym.underlying22 hi hz0 hz1 .i64 .i64 _ _ n rfl rfl rfl rfl (by rw [hz2]; omega) (by unfold maxLen; omega) (Nat.le_refl _) ?_; intro w1 hown hgrow; have hb1 : Below w.heap.size w w1 := (Below.refl _ _).grown hgrow (Nat.le_refl _) (fun k hk => by cases hk); have HO : Hid (∃ ys : List Int, w1.ownsRow w.heap.size 3 1 (.slice (some ⟨w.heap.size, 0, none⟩) n n) n (ys.map (Value.int .i64)) ∧ ys.length = n) := clone_start hown; clear hown hgrow)
    go_loopw [4] (fun t wr => ∃ k : Nat, k ≤ n ∧ t = .int .i64 k ∧ Below w.heap.size w wr ∧ Hid (∃ ys : List Int, wr.ownsRow w.heap.size 3 1 (.slice (some ⟨w.heap.size, 0, none⟩) n n) n (ys.map (Value.int .i64)) ∧ ys.length = n)) (fun t _ => n - (intOf t).toNat)
    case atStart => exact ⟨0, Nat.zero_le _, rfl, hb1, HO⟩
    case round =>
      obtain ⟨k, hk, rfl, hbr, HR⟩ := hrel
      by_cases hlt : k < n
      · obtain ⟨b, off, rfl, hc⟩ := addr_plain (P := fun _ v => ∃ z, v = Value.int .i64 z) (by omega) HX.out
        obtain ⟨_, hck, z, rfl⟩ := hc k hlt
        have hckr := (hbr.cell (p := ⟨b, off + k, none⟩) (cell_lt hck)).trans hck
        obtain ⟨ys, ho, hy⟩ := HR.out
        obtain ⟨z', hz'⟩ := row_cell ho hy hlt
        have hfz := ho.frozenAt k
        have HN := clone_step (k := k) (z := z) hbr (Nat.le_refl _) HR.out
        have HN1 : Hid (Below w.heap.size w (wr.setCell ⟨w.heap.size, k, none⟩ (.int .i64 z))) := HN.1
        have HN2 : Hid (∃ ys : List Int, (wr.setCell ⟨w.heap.size, k, none⟩ (.int .i64 z)).ownsRow w.heap.size 3 1 (.slice (some ⟨w.heap.size, 0, none⟩) n n) n (ys.map (Value.int .i64)) ∧ ys.length = n) := HN.2
        clear hc hck ho HN
        go_wp2
        go_roundw
        case rel => exact ⟨k + 1, by omega, by go_num, HN1.out, HN2⟩
        case measure => simp [intOf]; omega
      · obtain ⟨ys, ho, hy⟩ := HR.out
        have HW : Hid (Own w.heap.size wr (.slice (some ⟨w.heap.size, 0, none⟩) n n) n) := own_of_row ho hy
        clear ho
        go_wp2
        go_ret
        exact ⟨_, rfl, hbr, HW.out⟩
end Go.Proofs.Qxb6000713aMods
