import Derived.Test.Qxb6000713aModsWb
namespace Go.Proofs.Qxb6000713aMods
open Go.RowKit

/-- the scanner's block -/
def Sc (w : World) (bs : Nat) (st : Int) (ind : Value) (fd si kc : Int) (ka : Bool) : Prop :=
  w.heap[bs]? = some (.cells #[.int .i64 st, ind, .int .i64 fd, .int .i64 si, .int .i64 kc, .bool ka] 49 (0, 0))

/-- only block bs has turned -/
structure Only (bs : Nat) (w w' : World) : Prop where
  os : w'.os = w.os
  tape : w'.tape = w.tape
  output : w'.output = w.output
  size : w'.heap.size = w.heap.size
  block : ∀ k, k ≠ bs → w'.heap[k]? = w.heap[k]?

theorem Only.refl (bs : Nat) (w : World) : Only bs w w := ⟨rfl, rfl, rfl, rfl, fun _ _ => rfl⟩
theorem Only.trans {bs : Nat} {a b c : World} (h : Only bs a b) (k : Only bs b c) : Only bs a c :=
  ⟨k.os.trans h.os, k.tape.trans h.tape, k.output.trans h.output, k.size.trans h.size, fun i hi => (k.block i hi).trans (h.block i hi)⟩
theorem Only.set {bs : Nat} {a w : World} (h : Only bs a w) (o : Nat) (u : Value) : Only bs a (w.setCell ⟨bs, o, none⟩ u) :=
  h.trans ⟨rfl, rfl, rfl, by simp [World.setCell], fun k hk => Below.heap_setCell _ _ _ _ hk⟩
theorem Only.below {bs B : Nat} {w w' : World} (h : Only bs w w') (hB : B ≤ bs) : Below B w w' :=
  ⟨h.os, h.tape, h.output, Nat.le_of_eq h.size.symm, fun k hk => h.block k (by omega)⟩
theorem Only.cell {bs : Nat} {w w' : World} (h : Only bs w w') {b o : Nat} (hb : b ≠ bs) : w'.cell? ⟨b, o, none⟩ = w.cell? ⟨b, o, none⟩ :=
  World.cell?_of_block (w := w) (h.block b hb)

theorem Sc.lt {w : World} {bs : Nat} {st : Int} {ind : Value} {fd si kc : Int} {ka : Bool} (h : Sc w bs st ind fd si kc ka) : bs < w.heap.size := lt_of_block h
theorem Sc.c0 {w : World} {bs : Nat} {st : Int} {ind : Value} {fd si kc : Int} {ka : Bool} (h : Sc w bs st ind fd si kc ka) : w.cell? ⟨bs, 0, none⟩ = some (.int .i64 st) := by unfold Sc at h; simp [World.cell?, h]
theorem Sc.c1 {w : World} {bs : Nat} {st : Int} {ind : Value} {fd si kc : Int} {ka : Bool} (h : Sc w bs st ind fd si kc ka) : w.cell? ⟨bs, 1, none⟩ = some ind := by unfold Sc at h; simp [World.cell?, h]
theorem Sc.c2 {w : World} {bs : Nat} {st : Int} {ind : Value} {fd si kc : Int} {ka : Bool} (h : Sc w bs st ind fd si kc ka) : w.cell? ⟨bs, 2, none⟩ = some (.int .i64 fd) := by unfold Sc at h; simp [World.cell?, h]
theorem Sc.c3 {w : World} {bs : Nat} {st : Int} {ind : Value} {fd si kc : Int} {ka : Bool} (h : Sc w bs st ind fd si kc ka) : w.cell? ⟨bs, 3, none⟩ = some (.int .i64 si) := by unfold Sc at h; simp [World.cell?, h]
theorem Sc.c4 {w : World} {bs : Nat} {st : Int} {ind : Value} {fd si kc : Int} {ka : Bool} (h : Sc w bs st ind fd si kc ka) : w.cell? ⟨bs, 4, none⟩ = some (.int .i64 kc) := by unfold Sc at h; simp [World.cell?, h]
theorem Sc.c5 {w : World} {bs : Nat} {st : Int} {ind : Value} {fd si kc : Int} {ka : Bool} (h : Sc w bs st ind fd si kc ka) : w.cell? ⟨bs, 5, none⟩ = some (.bool ka) := by unfold Sc at h; simp [World.cell?, h]
theorem Sc.fr {w : World} {bs : Nat} {st : Int} {ind : Value} {fd si kc : Int} {ka : Bool} (h : Sc w bs st ind fd si kc ka) (o : Nat) : w.frozen? ⟨bs, o, none⟩ = false := by unfold Sc at h; simp [World.frozen?, h]

theorem block_setCell {w : World} {b o : Nat} {cs : Array Value} {u : Value} {t : TypeId} {m : Nat × Nat} (h : w.heap[b]? = some (.cells cs t m)) : (w.setCell ⟨b, o, none⟩ u).heap[b]? = some (.cells (cs.setIfInBounds o u) t m) := by
  have hlt := lt_of_block h
  have h' : w.heap[b] = .cells cs t m := by simpa [Array.getElem?_eq_getElem hlt] using h
  show (w.heap.modify b _)[b]? = _
  rw [Array.getElem?_eq_getElem (by simpa using hlt), Array.getElem_modify_self, h']
  rfl

theorem Sc.s0 {w : World} {bs : Nat} {st : Int} {ind : Value} {fd si kc : Int} {ka : Bool} (h : Sc w bs st ind fd si kc ka) (x : Int) : Sc (w.setCell ⟨bs, 0, none⟩ (.int .i64 x)) bs x ind fd si kc ka := block_setCell h
theorem Sc.s1 {w : World} {bs : Nat} {st : Int} {ind : Value} {fd si kc : Int} {ka : Bool} (h : Sc w bs st ind fd si kc ka) (x : Value) : Sc (w.setCell ⟨bs, 1, none⟩ x) bs st x fd si kc ka := block_setCell h
theorem Sc.s2 {w : World} {bs : Nat} {st : Int} {ind : Value} {fd si kc : Int} {ka : Bool} (h : Sc w bs st ind fd si kc ka) (x : Int) : Sc (w.setCell ⟨bs, 2, none⟩ (.int .i64 x)) bs st ind x si kc ka := block_setCell h
theorem Sc.s3 {w : World} {bs : Nat} {st : Int} {ind : Value} {fd si kc : Int} {ka : Bool} (h : Sc w bs st ind fd si kc ka) (x : Int) : Sc (w.setCell ⟨bs, 3, none⟩ (.int .i64 x)) bs st ind fd x kc ka := block_setCell h
theorem Sc.s4 {w : World} {bs : Nat} {st : Int} {ind : Value} {fd si kc : Int} {ka : Bool} (h : Sc w bs st ind fd si kc ka) (x : Int) : Sc (w.setCell ⟨bs, 4, none⟩ (.int .i64 x)) bs st ind fd si x ka := block_setCell h
theorem Sc.s5 {w : World} {bs : Nat} {st : Int} {ind : Value} {fd si kc : Int} {ka : Bool} (h : Sc w bs st ind fd si kc ka) (x : Bool) : Sc (w.setCell ⟨bs, 5, none⟩ (.bool x)) bs st ind fd si kc x := block_setCell h

/-- a line's cells, not in block bs -/
def Lx (bs : Nat) (w : World) (a : Option Addr) (zs : List Int) : Prop :=
  zs = [] ∨ ∃ b off, a = some ⟨b, off, none⟩ ∧ b ≠ bs ∧ ∀ k, k < zs.length → w.cell? ⟨b, off + k, none⟩ = some (.int .u8 (zs.getD k 0))
theorem Lx.ln {bs : Nat} {w : World} {a : Option Addr} {zs : List Int} (h : Lx bs w a zs) : Ln w a zs := by
  rcases h with h | ⟨b, off, h1, _, h3⟩
  · exact .inl h
  · exact .inr ⟨b, off, h1, h3⟩
theorem Lx.only {bs : Nat} {w w' : World} {a : Option Addr} {zs : List Int} (h : Lx bs w a zs) (ho : Only bs w w') : Lx bs w' a zs := by
  rcases h with h | ⟨b, off, h1, h2, h3⟩
  · exact .inl h
  · exact .inr ⟨b, off, h1, h2, fun k hk => (ho.cell h2).trans (h3 k hk)⟩

/-! the plain side: brackets -/
def bv (c : Int) : Int := if c = 91 ∨ c = 123 then 1 else if c = 93 ∨ c = 125 then -1 else 0
def P (zs : List Int) (k : Nat) : Int := ((zs.take k).map bv).sum
theorem bv_bd (c : Int) : -1 ≤ bv c ∧ bv c ≤ 1 := by
  unfold bv
  split
  · omega
  · split <;> omega
theorem P_succ (zs : List Int) (k : Nat) (h : k < zs.length) : P zs (k + 1) = P zs k + bv (zs.getD k 0) := by
  unfold P
  rw [List.take_succ_eq_append_getElem h]
  rw [List.map_append, List.sum_append]
  simp [List.getElem?_eq_getElem h]
theorem bv_blank (c : Int) (h : blB c = true) : bv c = 0 := by
  unfold blB at h; unfold bv
  simp at h
  rcases h with h | h <;> subst h <;> decide

theorem sk_spec (zs : List Int) : ∀ (n k : Nat), zs.length - k = n → k ≤ zs.length → k ≤ sk zs k ∧ sk zs k ≤ zs.length ∧ (sk zs k < zs.length → blB (zs.getD (sk zs k) 0) = false) ∧ ∀ j, k ≤ j → j ≤ sk zs k → P zs j = P zs k := by
  intro n
  induction n with
  | zero =>
    intro k h1 h2
    rw [sk_end zs k (by omega)]
    exact ⟨Nat.le_refl _, h2, fun h => by omega, fun j a b => congrArg (P zs) (show j = k by omega)⟩
  | succ n ih =>
    intro k h1 h2
    cases hb : blB (zs.getD k 0)
    · rw [sk_no zs k (by omega) hb]
      exact ⟨Nat.le_refl _, h2, fun _ => hb, fun j a b => congrArg (P zs) (show j = k by omega)⟩
    · rw [sk_yes zs k (by omega) hb]
      obtain ⟨i1, i2, i3, i4⟩ := ih (k + 1) (by omega) (by omega)
      refine ⟨by omega, i2, i3, fun j a b => ?_⟩
      by_cases e : j = k
      · rw [e]
      · rw [i4 j (by omega) b, P_succ zs k (by omega), bv_blank _ hb, Int.add_zero]

/-- a byte of the law's lines -/
def okB (c : Int) : Prop := blB c = true ∨ c = 91 ∨ c = 93 ∨ c = 123 ∨ c = 125 ∨ c = 44 ∨ c = 63 ∨ c = 58
end Go.Proofs.Qxb6000713aMods
