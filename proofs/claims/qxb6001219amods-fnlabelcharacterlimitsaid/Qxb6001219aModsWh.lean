import Derived.Test.Qxb6001219aModsWe
namespace Go.Proofs.Qxb6001219aMods
open Go.RowKit

/-! the plain side of label -/
def cnt (c : Int) (ch : Nat) : Nat := if c < 128 ∨ 192 ≤ c then ch + 1 else ch
def isBl (c : Int) : Bool := decide (c = 32 ∨ c = 9 ∨ c = 10)
def labF : Bool → List Int → Bool → Nat → Nat → Int
  | _, [], _, _, _ => 0
  | true, _ :: r, b, ch, i => labF false r b ch (i + 1)
  | false, c :: r, b, ch, i =>
    if c = 91 then 0 else if c = 93 then (if b = true then 0 else (i : Int) + 1)
    else if c = 92 ∧ pun (r.headD 0) = true then (if 999 < ch + 2 then 0 else labF true r false (ch + 2) (i + 1))
    else (if 999 < cnt c ch then 0 else labF false r (b && isBl c) (cnt c ch) (i + 1))
def lab (L : List Int) : Int := if L.headD 0 = 91 then labF false (L.drop 1) true 0 1 else 0

theorem lab_end (L : List Int) (k : Nat) (h : L.length ≤ k) (q b : Bool) (ch : Nat) : labF q (L.drop k) b ch k = 0 := by
  rw [List.drop_of_length_le h]; cases q <;> rfl
theorem lab_skip (L : List Int) (k : Nat) (h : k < L.length) (b : Bool) (ch : Nat) : labF true (L.drop k) b ch k = labF false (L.drop (k + 1)) b ch (k + 1) := by
  rw [drop_cons L k h, labF]
theorem lab_step (L : List Int) (k : Nat) (h : k < L.length) (b : Bool) (ch : Nat) {c : Int} (hc : L.getD k 0 = c) : labF false (L.drop k) b ch k =
    if c = 91 then 0 else if c = 93 then (if b = true then 0 else (k : Int) + 1)
    else if c = 92 ∧ pun (L.getD (k + 1) 0) = true then (if 999 < ch + 2 then 0 else labF true (L.drop (k + 1)) false (ch + 2) (k + 1))
    else (if 999 < cnt c ch then 0 else labF false (L.drop (k + 1)) (b && isBl c) (cnt c ch) (k + 1)) := by
  rw [drop_cons L k h, labF, headD_drop, hc]

/-- k copies -/
def rep : Nat → List Int → List Int
  | 0, _ => []
  | k + 1, U => U ++ rep k U
theorem rep_length (U : List Int) : ∀ k, (rep k U).length = k * U.length := by
  intro k
  induction k with
  | zero => simp [rep]
  | succ k ih => rw [rep, List.length_append, ih, Nat.succ_mul]; omega
theorem rep_snoc (U : List Int) : ∀ k, rep (k + 1) U = rep k U ++ U := by
  intro k
  induction k with
  | zero => simp [rep]
  | succ k ih =>
    rw [rep, ih, ← List.append_assoc, ← ih]
    rfl

/-- a unit worth wt > 0 -/
def Unit1 (U : List Int) (wt : Nat) : Prop := 0 < wt ∧ ∀ R b ch i, ch ≤ 999 → labF false (U ++ R) b ch i = if 999 < ch + wt then 0 else labF false R false (ch + wt) (i + U.length)
/-- a blank unit -/
def Unit0 (U : List Int) : Prop := ∀ R ch i, ch ≤ 999 → labF false (U ++ R) true ch i = if 999 < ch + 1 then 0 else labF false R true (ch + 1) (i + 1)

theorem rep1 {U : List Int} {wt : Nat} (h : Unit1 U wt) (T : List Int) : ∀ k ch i, ch ≤ 999 → labF false (rep k U ++ 93 :: T) false ch i = if 999 < ch + k * wt then 0 else (i : Int) + (k * U.length : Nat) + 1 := by
  intro k
  induction k with
  | zero =>
    intro ch i hc
    rw [if_neg (by omega), rep, List.nil_append, labF, if_neg (by decide), if_pos rfl, if_neg (by decide)]
    omega
  | succ k ih =>
    intro ch i hc
    rw [rep, List.append_assoc, h.2 _ _ _ _ hc]
    have e1 : ch + (k + 1) * wt = ch + wt + k * wt := by rw [Nat.succ_mul]; omega
    have e2 : (k + 1) * U.length = k * U.length + U.length := Nat.succ_mul _ _
    by_cases hw : 999 < ch + wt
    · rw [if_pos hw, if_pos (by omega)]
    · rw [if_neg hw, ih _ _ (by omega), e1, e2]
      split
      · rfl
      · omega
theorem rep0 {U : List Int} (h : Unit0 U) (T : List Int) : ∀ k ch i, ch ≤ 999 → labF false (rep k U ++ 93 :: T) true ch i = 0 := by
  intro k
  induction k with
  | zero =>
    intro ch i hc
    rw [rep, List.nil_append, labF, if_neg (by decide), if_pos rfl, if_pos rfl]
  | succ k ih =>
    intro ch i hc
    rw [rep, List.append_assoc, h _ _ _ hc]
    split
    · rfl
    · exact ih _ _ (by omega)

/-- the law's answer -/
def want (U : List Int) (wt : Int) (k : Nat) : Int := if 0 < wt ∧ 1 ≤ k ∧ (k : Int) * wt ≤ 999 then (k * U.length : Nat) + 2 else 0
def LabLaw (U : List Int) (wt : Int) : Prop := ∀ (k : Nat) (T : List Int), lab ([91] ++ rep k U ++ [93] ++ T) = want U wt k

theorem lab_head (B T : List Int) : lab ([91] ++ B ++ [93] ++ T) = labF false (B ++ 93 :: T) true 0 1 := by
  unfold lab
  rw [if_pos (by simp)]
  simp
theorem law1 {U : List Int} {wt : Nat} (h : Unit1 U wt) : LabLaw U wt := by
  intro k T
  rw [lab_head]
  unfold want
  cases k with
  | zero =>
    rw [if_neg (by omega), rep, List.nil_append, labF, if_neg (by decide), if_pos rfl, if_pos rfl]
  | succ k =>
    rw [rep, List.append_assoc, h.2 _ _ _ _ (by omega)]
    have h0 := h.1
    have e1 : ((k + 1 : Nat) : Int) * (wt : Int) = ((wt + k * wt : Nat) : Int) := by rw [← Int.natCast_mul, Nat.succ_mul]; omega
    have e2 : (k + 1) * U.length = k * U.length + U.length := Nat.succ_mul _ _
    rw [e1, e2]
    by_cases hw : 999 < 0 + wt
    · rw [if_pos hw, if_neg (by omega)]
    · rw [if_neg hw, rep1 h T _ _ _ (by omega)]
      by_cases hw2 : 999 < 0 + wt + k * wt
      · rw [if_pos hw2, if_neg (by omega)]
      · rw [if_neg hw2, if_pos (by omega)]
        omega
theorem law0 {U : List Int} (h : Unit0 U) : LabLaw U 0 := by
  intro k T
  rw [lab_head, rep0 h T _ _ _ (by omega)]
  unfold want
  rw [if_neg (by omega)]

theorem u_a : Unit1 [97] 1 := ⟨by decide, fun R b ch i _ => by
  rw [List.cons_append, labF, if_neg (by decide), if_neg (by decide), if_neg (by simp)]
  simp [cnt, isBl]⟩
theorem u_e : Unit1 [195, 169] 1 := ⟨by decide, fun R b ch i hc => by
  rw [List.cons_append, labF, if_neg (by decide), if_neg (by decide), if_neg (by simp)]
  by_cases h : 999 < ch + 1
  · simp [cnt, h]
  · rw [if_neg (by simpa [cnt] using h), if_neg h, List.cons_append, labF, if_neg (by decide), if_neg (by decide), if_neg (by simp), if_neg (by simpa [cnt] using h)]
    simp [cnt, isBl]⟩
theorem u_eur : Unit1 [226, 130, 172] 1 := ⟨by decide, fun R b ch i hc => by
  rw [List.cons_append, labF, if_neg (by decide), if_neg (by decide), if_neg (by simp)]
  by_cases h : 999 < ch + 1
  · simp [cnt, h]
  · rw [if_neg (by simpa [cnt] using h), if_neg h, List.cons_append, labF, if_neg (by decide), if_neg (by decide), if_neg (by simp), if_neg (by simpa [cnt] using h),
      List.cons_append, labF, if_neg (by decide), if_neg (by decide), if_neg (by simp), if_neg (by simpa [cnt] using h)]
    simp [cnt, isBl]⟩
theorem u_smile : Unit1 [240, 159, 152, 128] 1 := ⟨by decide, fun R b ch i hc => by
  rw [List.cons_append, labF, if_neg (by decide), if_neg (by decide), if_neg (by simp)]
  by_cases h : 999 < ch + 1
  · simp [cnt, h]
  · rw [if_neg (by simpa [cnt] using h), if_neg h, List.cons_append, labF, if_neg (by decide), if_neg (by decide), if_neg (by simp), if_neg (by simpa [cnt] using h),
      List.cons_append, labF, if_neg (by decide), if_neg (by decide), if_neg (by simp), if_neg (by simpa [cnt] using h),
      List.cons_append, labF, if_neg (by decide), if_neg (by decide), if_neg (by simp), if_neg (by simpa [cnt] using h)]
    simp [cnt, isBl]⟩
theorem u_esc : Unit1 [92, 93] 2 := ⟨by decide, fun R b ch i _ => by
  rw [List.cons_append, labF, if_neg (by decide), if_neg (by decide), if_pos ⟨rfl, by rfl⟩]
  split
  · rfl
  · rw [List.cons_append, labF]
    simp⟩
theorem u_sp : Unit0 [32] := fun R ch i _ => by
  rw [List.cons_append, labF, if_neg (by decide), if_neg (by decide), if_neg (by simp)]
  simp [cnt, isBl]
theorem u_nl : Unit0 [10] := fun R ch i _ => by
  rw [List.cons_append, labF, if_neg (by decide), if_neg (by decide), if_neg (by simp)]
  simp [cnt, isBl]
end Go.Proofs.Qxb6001219aMods
