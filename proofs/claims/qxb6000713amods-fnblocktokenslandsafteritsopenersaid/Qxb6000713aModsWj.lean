import Derived.Test.Qxb6000713aModsWi
namespace Go.Proofs.Qxb6000713aMods
open Go.RowKit

/-- the heap has not turned (draws alone) -/
structure Same (w w' : World) : Prop where
  os : w'.os = w.os
  tape : w'.tape = w.tape
  output : w'.output = w.output
  heap : w'.heap = w.heap
theorem Same.refl (w : World) : Same w w := ⟨rfl, rfl, rfl, rfl⟩
theorem Same.drewN (w : World) (n : Nat) : Same w (w.drewN n) := by
  induction n generalizing w with
  | zero => exact Same.refl w
  | succ n ih =>
    have h := ih w.drew
    exact ⟨h.os, h.tape, h.output, h.heap⟩
theorem Same.below {w w' : World} (h : Same w w') (B : Nat) : Below B w w' :=
  ⟨h.os, h.tape, h.output, by rw [h.heap]; exact Nat.le_refl _, fun k _ => by rw [h.heap]⟩

/-- below B nothing has turned; and no block but bs and the rows of ints -/
structure Bel (B bs : Nat) (w w' : World) : Prop where
  bel : Below B w w'
  keep : ∀ k cs t m, k ≠ bs → t ≠ 3 → w.heap[k]? = some (.cells cs t m) → w'.heap[k]? = some (.cells cs t m)
theorem Bel.refl (B bs : Nat) (w : World) : Bel B bs w w := ⟨Below.refl _ _, fun _ _ _ _ _ _ h => h⟩
theorem Bel.trans {B bs : Nat} {a b c : World} (h : Bel B bs a b) (k : Bel B bs b c) : Bel B bs a c :=
  ⟨h.bel.trans k.bel, fun i cs t m h1 h2 h3 => k.keep i cs t m h1 h2 (h.keep i cs t m h1 h2 h3)⟩
theorem Bel.setCell {B bs : Nat} {a w : World} (h : Bel B bs a w) (hp : B ≤ bs) {o : Nat} (u : Value) : Bel B bs a (w.setCell ⟨bs, o, none⟩ u) :=
  ⟨h.bel.setCell hp u, fun i cs t m h1 h2 h3 => by rw [Below.heap_setCell _ _ _ _ h1]; exact h.keep i cs t m h1 h2 h3⟩
theorem Same.bel {w w' : World} (h : Same w w') (B bs : Nat) : Bel B bs w w' :=
  ⟨h.below B, fun i cs t m _ _ h3 => by rw [h.heap]; exact h3⟩
theorem Bel.new {B bs : Nat} {w w' : World} (h : Below w.heap.size w w') (hB : B ≤ w.heap.size) : Bel B bs w w' :=
  ⟨h.mono hB, fun i cs t m _ _ h3 => by rw [h.block i (lt_of_block h3)]; exact h3⟩

/-- the stack of indents as a slice that the call owns, of n ints -/
def Own (B : Nat) (w : World) (v : Value) (n : Nat) : Prop :=
  (v = .slice none 0 0 ∧ n = 0) ∨ ∃ (g cap : Nat) (xs : List Int), v = .slice (some ⟨g, 0, none⟩) n cap ∧ w.ownsRow B 3 1 v n (xs.map (Value.int .i64)) ∧ xs.length = n

/-- the scanner in memory: its own block, the indents owned beside it -/
structure Bk (B : Nat) (w : World) (bs : Nat) (st : Int) (n : Nat) (fd si kc : Int) (ka : Bool) (ind : Value) : Prop where
  sc : Sc w bs st ind fd si kc ka
  le : B ≤ bs
  own : Own B w ind n

theorem Own.slice {B : Nat} {w : World} {v : Value} {n : Nat} (h : Own B w v n) : ∃ a cap, v = .slice a n cap := by
  rcases h with ⟨rfl, rfl⟩ | ⟨g, cap, xs, rfl, _, _⟩
  · exact ⟨none, 0, rfl⟩
  · exact ⟨_, _, rfl⟩
theorem Own.row {B : Nat} {w : World} {v : Value} {n : Nat} (h : Own B w v n) : ∃ xs : List Int, w.ownsRow B 3 1 v n (xs.map (Value.int .i64)) ∧ xs.length = n := by
  rcases h with ⟨rfl, rfl⟩ | ⟨g, cap, xs, _, h1, h2⟩
  · exact ⟨[], World.ownsRow_nil _ _ _ _, rfl⟩
  · exact ⟨xs, h1, h2⟩
/-- the owned row's block is no block of structs -/
theorem own_ne {B : Nat} {w : World} {v : Value} {n bs : Nat} {xs : List Value} {cs : Array Value} (h : w.ownsRow B 3 1 v n xs) (hs : w.heap[bs]? = some (.cells cs 49 (0, 0))) : v.ownBlock ≠ some bs := by
  obtain ⟨_, h2⟩ := h
  rcases h2 with ⟨rfl, _⟩ | ⟨g, cap, cur, rfl, _, hh, _⟩
  · simp [Value.ownBlock]
  · intro e
    simp [Value.ownBlock] at e
    subst e
    rw [hh] at hs
    simp at hs
theorem Own.set {B : Nat} {w : World} {v : Value} {n bs o : Nat} {cs : Array Value} (h : Own B w v n) (hs : w.heap[bs]? = some (.cells cs 49 (0, 0))) (u : Value) : Own B (w.setCell ⟨bs, o, none⟩ u) v n := by
  rcases h with ⟨rfl, rfl⟩ | ⟨g, cap, xs, hv, h1, h2⟩
  · exact .inl ⟨rfl, rfl⟩
  · exact .inr ⟨g, cap, xs, hv, ownsRow_setCell_other h1 (own_ne h1 hs) u, h2⟩
theorem Own.same {B : Nat} {w w' : World} {v : Value} {n : Nat} (h : Own B w v n) (hs : w'.heap = w.heap) : Own B w' v n := by
  rcases h with ⟨rfl, rfl⟩ | ⟨g, cap, xs, hv, h1, h2⟩
  · exact .inl ⟨rfl, rfl⟩
  · refine .inr ⟨g, cap, xs, hv, ?_, h2⟩
    unfold World.ownsRow at h1 ⊢
    rw [hs]
    exact h1
theorem Own.below {B : Nat} {w w' : World} {v : Value} {n : Nat} (h : Own B w v n) (hs : Below w.heap.size w w') : Own B w' v n := by
  rcases h with ⟨rfl, rfl⟩ | ⟨g, cap, xs, hv, h1, h2⟩
  · exact .inl ⟨rfl, rfl⟩
  · refine .inr ⟨g, cap, xs, hv, ?_, h2⟩
    obtain ⟨k1, k2⟩ := h1
    refine ⟨k1, ?_⟩
    rcases k2 with k2 | ⟨g', cap', cur, e1, e2, e3, r⟩
    · exact .inl k2
    · exact .inr ⟨g', cap', cur, e1, e2, by rw [hs.block g' (lt_of_block e3)]; exact e3, r⟩

section
variable {B : Nat} {w w' : World} {bs : Nat} {st : Int} {n : Nat} {fd si kc : Int} {ka : Bool} {ind : Value}
theorem Bk.same (h : Bk B w bs st n fd si kc ka ind) (hs : Same w w') : Bk B w' bs st n fd si kc ka ind :=
  ⟨by have := h.sc; unfold Sc at this ⊢; rw [hs.heap]; exact this, h.le, h.own.same hs.heap⟩
theorem Bk.below (h : Bk B w bs st n fd si kc ka ind) (hs : Below w.heap.size w w') : Bk B w' bs st n fd si kc ka ind :=
  ⟨by have := h.sc; unfold Sc at this ⊢; rw [hs.block bs h.sc.lt]; exact this, h.le, h.own.below hs⟩
theorem Bk.s0 (h : Bk B w bs st n fd si kc ka ind) (x : Int) : Bk B (w.setCell ⟨bs, 0, none⟩ (.int .i64 x)) bs x n fd si kc ka ind := ⟨h.sc.s0 x, h.le, h.own.set h.sc _⟩
theorem Bk.s2 (h : Bk B w bs st n fd si kc ka ind) (x : Int) : Bk B (w.setCell ⟨bs, 2, none⟩ (.int .i64 x)) bs st n x si kc ka ind := ⟨h.sc.s2 x, h.le, h.own.set h.sc _⟩
theorem Bk.s3 (h : Bk B w bs st n fd si kc ka ind) (x : Int) : Bk B (w.setCell ⟨bs, 3, none⟩ (.int .i64 x)) bs st n fd x kc ka ind := ⟨h.sc.s3 x, h.le, h.own.set h.sc _⟩
theorem Bk.s4 (h : Bk B w bs st n fd si kc ka ind) (x : Int) : Bk B (w.setCell ⟨bs, 4, none⟩ (.int .i64 x)) bs st n fd si x ka ind := ⟨h.sc.s4 x, h.le, h.own.set h.sc _⟩
theorem Bk.s5 (h : Bk B w bs st n fd si kc ka ind) (x : Bool) : Bk B (w.setCell ⟨bs, 5, none⟩ (.bool x)) bs st n fd si kc x ind := ⟨h.sc.s5 x, h.le, h.own.set h.sc _⟩
end

theorem own_last {B : Nat} {w : World} {g n cap : Nat} {xs : List Int} (h : w.ownsRow B 3 1 (.slice (some ⟨g, 0, none⟩) n cap) n (xs.map (Value.int .i64))) (hx : xs.length = n) (hn : 0 < n) :
    ∃ t, w.cell? ⟨g, n - 1, none⟩ = some (.int .i64 t) := by
  have hcell := h.cellAt (n - 1) (by omega)
  rw [List.getElem?_map, List.getElem?_eq_getElem (by omega)] at hcell
  exact ⟨_, hcell⟩

set_option maxHeartbeats 400000 in
theorem top44 (B : Nat) (bs : Nat) (st : Int) (n : Nat) (fd si kc : Int) (ka : Bool) (ind : Value) (w : World) (h : Bk B w bs st n fd si kc ka ind) (hn : n ≤ 2000000) :
    Calls Trym.prog 44 #[.pointer (some ⟨bs, 0, none⟩)] w fun e w' => ∃ t : Int, e = .returned (.int .i64 t) ∧ Same w w' := by
  have hsc := h.sc
  have c1 := hsc.c1
  have hlt := hsc.lt
  rcases h.own with ⟨rfl, rfl⟩ | ⟨g, cap, xs, rfl, hown, hxs⟩
  · go_enter Trym.func44, Trym.ntmps44
    go_wp2
    go_ret
    exact ⟨_, rfl, Same.refl _⟩
  · by_cases hn0 : n = 0
    · subst hn0
      go_enter Trym.func44, Trym.ntmps44
      go_wp2
      go_ret
      exact ⟨_, rfl, Same.refl _⟩
    · obtain ⟨t, hcell⟩ := own_last hown hxs (by omega)
      have hnn : ((n : Int) == 0) = false := by simpa using hn0
      have hpos : (0 : Int) < (n : Int) := by omega
      clear hown hxs hn0
      obtain ⟨k, rfl⟩ : ∃ k, n = k + 1 := ⟨n - 1, by omega⟩
      simp only [Nat.add_sub_cancel] at hcell
      go_enter Trym.func44, Trym.ntmps44
      go_wp2
      go_quiet (fail)
      go_wp2
      go_ret
      exact ⟨_, rfl, Same.drewN _ _⟩
end Go.Proofs.Qxb6000713aMods
