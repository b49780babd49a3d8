import Derived.Test.Qxb6001219aModsWd
namespace Go.Proofs.Qxb6001219aMods
open Go.RowKit

theorem bl_append (a b : ByteArray) : bl (a ++ b) = bl a ++ bl b := by simp [bl]

/-- bytes that bareOK lets by -/
def okX (X : List Int) : Prop := ∀ c ∈ X, 32 < c ∧ c ≠ 127 ∧ c ≠ 40 ∧ c ≠ 41 ∧ c ≠ 92
def okY (Y : List Int) : Prop := ∀ c ∈ Y, c ≠ 60 ∧ c ≠ 62 ∧ c ≠ 10 ∧ c ≠ 92

theorem bare_over (R : List Int) (dep : Nat) : ∀ (X : List Int) (i : Nat), okX X → bareF false (X ++ R) dep i = bareF false R dep (i + X.length) := by
  intro X
  induction X with
  | nil => intro i _; rfl
  | cons c X ih =>
    intro i h
    obtain ⟨h1, h2, h3, h4, h5⟩ := h c (List.mem_cons_self ..)
    rw [List.cons_append, bareF, if_neg (by omega), if_neg h3, if_neg h4, decide_eq_false h5, Bool.false_and, ih (i + 1) (fun d hd => h d (List.mem_cons_of_mem _ hd))]
    rw [List.length_cons, show i + 1 + X.length = i + (X.length + 1) by omega]
theorem ang_over (R : List Int) : ∀ (Y : List Int) (i : Nat), okY Y → angF false (Y ++ R) i = angF false R (i + Y.length) := by
  intro Y
  induction Y with
  | nil => intro i _; rfl
  | cons c Y ih =>
    intro i h
    obtain ⟨h1, h2, h3, h4⟩ := h c (List.mem_cons_self ..)
    rw [List.cons_append, angF, if_neg h2, if_neg (by omega), decide_eq_false h4, Bool.false_and, ih (i + 1) (fun d hd => h d (List.mem_cons_of_mem _ hd))]
    rw [List.length_cons, show i + 1 + Y.length = i + (Y.length + 1) by omega]

theorem head_app {X R : List Int} (h : X ≠ []) : (X ++ R).headD 0 = X.headD 0 := by
  cases X with
  | nil => exact absurd rfl h
  | cons c X => rfl

theorem built1 {X T : List Int} (hX : okX X) (hne : X ≠ []) (h60 : X.headD 0 ≠ 60) : dest (X ++ [32] ++ T) = X.length := by
  have hl := List.length_pos_iff.2 hne
  unfold dest
  rw [List.append_assoc, head_app hne, if_neg h60, bare_over _ _ _ _ hX, List.cons_append, bareF, if_pos (by decide)]
  unfold fin
  rw [if_neg (by omega)]
  omega
theorem built2 {X T : List Int} (hX : okX X) (hne : X ≠ []) (h60 : X.headD 0 ≠ 60) : dest (X ++ [41] ++ T) = X.length := by
  have hl := List.length_pos_iff.2 hne
  unfold dest
  rw [List.append_assoc, head_app hne, if_neg h60, bare_over _ _ _ _ hX, List.cons_append, bareF, if_neg (by decide), if_neg (by decide), if_pos rfl, if_pos rfl]
  unfold fin
  rw [if_neg (by omega)]
  omega
theorem built4 {X T : List Int} (hX : okX X) (hne : X ≠ []) (h60 : X.headD 0 ≠ 60) : dest (X ++ [92, 41, 32] ++ T) = (X.length : Int) + 2 := by
  have hl := List.length_pos_iff.2 hne
  unfold dest
  rw [List.append_assoc, head_app hne, if_neg h60, bare_over _ _ _ _ hX, List.cons_append, bareF, if_neg (by decide), if_neg (by decide), if_neg (by decide)]
  show bareF true (41 :: 32 :: T) _ _ = _
  rw [bareF, bareF, if_pos (by decide)]
  unfold fin
  rw [if_neg (by omega)]
  omega
theorem built3 {X T : List Int} (hX : okX X) : dest ([40] ++ X ++ [41, 32] ++ T) = (X.length : Int) + 2 := by
  unfold dest
  rw [if_neg (by simp), List.append_assoc, List.append_assoc, List.cons_append, List.nil_append, bareF, if_neg (by decide), if_pos rfl, bare_over _ _ _ _ hX, List.cons_append, bareF, if_neg (by decide), if_neg (by decide), if_pos rfl, if_neg (by decide)]
  show bareF false (32 :: T) _ _ = _
  rw [bareF, if_pos (by decide)]
  unfold fin
  rw [if_neg (by omega)]
  omega
theorem built5 {X : List Int} (hX : okX X) : dest ([40] ++ X) = -1 := by
  have e : [40] ++ X = 40 :: (X ++ []) := by simp
  unfold dest
  rw [e, if_neg (by simp), bareF, if_neg (by decide), if_pos rfl, bare_over _ _ _ _ hX, bareF]
  unfold fin
  rw [if_pos (by omega)]
theorem built6 {Y T : List Int} (hY : okY Y) : dest ([60] ++ Y ++ [62] ++ T) = (Y.length : Int) + 2 := by
  unfold dest
  rw [if_pos (by simp), List.append_assoc, List.append_assoc, List.cons_append, List.nil_append, List.drop_one, List.tail_cons, ang_over _ _ _ hY, List.cons_append, angF, if_pos rfl]
  omega
theorem built7 {Y : List Int} (hY : okY Y) : dest ([60] ++ Y) = -1 := by
  have e : [60] ++ Y = 60 :: (Y ++ []) := by simp
  unfold dest
  rw [e, if_pos (by simp), List.drop_one, List.tail_cons, ang_over _ _ _ hY, angF]
theorem built8 {Y T : List Int} (hY : okY Y) : dest ([60] ++ Y ++ [10, 62] ++ T) = -1 := by
  unfold dest
  rw [if_pos (by simp), List.append_assoc, List.append_assoc, List.cons_append, List.nil_append, List.drop_one, List.tail_cons, ang_over _ _ _ hY, List.cons_append, angF, if_neg (by decide), if_pos (by decide)]
end Go.Proofs.Qxb6001219aMods
