import Derived.Test.Qxb6001230aModsWd
namespace Go.Proofs.Qxb6001230aMods
open Go.RowKit

theorem size_mk (a : Array UInt8) : (ByteArray.mk a).size = a.size := rfl
/-- a string's bytes, as numbers -/
def bl (s : ByteArray) : List Int := s.data.toList.map fun b => (b.toNat : Int)
theorem bl_length (s : ByteArray) : (bl s).length = s.size := by simp [bl]
theorem bl_at (s : ByteArray) (k : Nat) (h : k < s.size) : (s[k].toNat : Int) = (bl s).getD k 0 := by
  have h' : k < (bl s).length := by rw [bl_length]; exact h
  rw [List.getD_eq_getElem?_getD, List.getElem?_eq_getElem h']
  simp [bl, ByteArray.getElem_eq_getElem_data]
theorem bl_mem (s : ByteArray) : ∀ z ∈ bl s, 0 ≤ z ∧ z ≤ 255 := by
  intro z hz
  simp only [bl, List.mem_map] at hz
  obtain ⟨b, _, rfl⟩ := hz
  have := b.toNat_lt
  omega
theorem take_snoc (L : List Int) (k : Nat) (h : k < L.length) : L.take (k + 1) = L.take k ++ [L.getD k 0] := by
  rw [List.take_succ_eq_append_getElem h, List.getD_eq_getElem?_getD, List.getElem?_eq_getElem h]
  rfl

/-! the plain law -/
def e1 (v : Int) : List Int := if v = 34 ∨ v = 92 then [92, v] else [v]
def es : List Int → List Int
  | [] => []
  | v :: r => e1 v ++ es r
theorem es_snoc (X : List Int) (v : Int) : es (X ++ [v]) = es X ++ e1 v := by
  induction X with
  | nil => simp [es]
  | cons c X ih => rw [List.cons_append, es, ih, es, List.append_assoc]
theorem es_le (X : List Int) : (es X).length ≤ 2 * X.length := by
  induction X with
  | nil => simp [es]
  | cons c X ih =>
    have : (e1 c).length ≤ 2 := by unfold e1; split <;> simp
    rw [es, List.length_append, List.length_cons]
    omega
theorem es_mem {X : List Int} (h : ∀ z ∈ X, 0 ≤ z ∧ z ≤ 255) : ∀ z ∈ es X, 0 ≤ z ∧ z ≤ 255 := by
  induction X with
  | nil => intro z hz; cases hz
  | cons c X ih =>
    intro z hz
    rw [es, List.mem_append] at hz
    rcases hz with hz | hz
    · have hc := h c (List.mem_cons_self ..)
      unfold e1 at hz
      split at hz
      · simp at hz; omega
      · simp at hz; omega
    · exact ih (fun d hd => h d (List.mem_cons_of_mem _ hd)) z hz

theorem seF_es (n : Nat) (R : List Int) : ∀ (S : List Int) (k : Nat), seF n false (es S ++ 34 :: R) k = k + (es S).length + 1 := by
  intro S
  induction S with
  | nil => intro k; rw [es, List.nil_append, seF, if_neg (by decide), if_pos rfl]; simp
  | cons v S ih =>
    intro k
    rw [es, List.append_assoc]
    unfold e1
    by_cases hv : v = 34 ∨ v = 92
    · rw [if_pos hv, List.cons_append, List.cons_append, List.nil_append, seF, if_pos rfl, seF, ih]
      simp; omega
    · rw [if_neg hv, List.cons_append, List.nil_append, seF, if_neg (by omega), if_neg (by omega), ih]
      simp; omega
theorem vb_es (n : Nat) (R : List Int) (d : Int) : ∀ (S : List Int) (k : Nat), vb n 1 (es S ++ 34 :: R) d k = vb n 0 R d (k + (es S).length + 1) := by
  intro S
  induction S with
  | nil => intro k; rw [es, List.nil_append, vb, if_neg (by decide), if_pos rfl]; simp
  | cons v S ih =>
    intro k
    rw [es, List.append_assoc]
    unfold e1
    by_cases hv : v = 34 ∨ v = 92
    · rw [if_pos hv, List.cons_append, List.cons_append, List.nil_append, vb, if_pos rfl, vb, ih]
      congr 1
      simp; omega
    · rw [if_neg hv, List.cons_append, List.nil_append, vb, if_neg (by omega), if_neg (by omega), ih]
      congr 1
      simp; omega
theorem op_ne {c : Int} (h : opB c = true) : c ≠ 34 := by intro e; rw [e] at h; cases h
theorem cl_ne {c : Int} (h : clB c = true) : c ≠ 34 ∧ opB c = false := by
  have := of_decide_eq_true h
  exact ⟨by omega, decide_eq_false (by omega)⟩
theorem vb_open (n : Nat) (R : List Int) : ∀ (X : List Int) (d : Int) (k : Nat), (∀ c ∈ X, opB c = true) → vb n 0 (X ++ R) d k = vb n 0 R (d + X.length) (k + X.length) := by
  intro X
  induction X with
  | nil => intro d k _; simp
  | cons c X ih =>
    intro d k h
    have hc := h c (List.mem_cons_self ..)
    rw [List.cons_append, vb, if_neg (op_ne hc), if_pos hc, ih _ _ (fun z hz => h z (List.mem_cons_of_mem _ hz)), List.length_cons]
    congr 1 <;> omega
theorem vb_close (n : Nat) (T : List Int) : ∀ (Y : List Int) (k : Nat), Y ≠ [] → (∀ c ∈ Y, clB c = true) → vb n 0 (Y ++ T) Y.length k = (k : Int) + Y.length := by
  intro Y
  induction Y with
  | nil => intro k h; exact absurd rfl h
  | cons c Y ih =>
    intro k _ h
    have hc := h c (List.mem_cons_self ..)
    rw [List.cons_append, vb, if_neg (cl_ne hc).1, if_neg (by rw [(cl_ne hc).2]; decide), if_pos hc, List.length_cons]
    by_cases hY : Y = []
    · subst hY
      rw [if_pos (by simp)]
      simp
    · have := List.length_pos_iff.2 hY
      rw [if_neg (by omega), show ((Y.length + 1 : Nat) : Int) - 1 = Y.length by omega, ih (k + 1) hY (fun z hz => h z (List.mem_cons_of_mem _ hz))]
      omega

/-- the built text -/
def builtT (P X S Y T : List Int) : List Int := P ++ (X ++ 34 :: (es S ++ 34 :: (Y ++ T)))
theorem drop_app (P R : List Int) : (P ++ R).drop P.length = R := by simp
theorem ve_built (P X S Y T : List Int) (hX : ∀ c ∈ X, opB c = true) (hY : ∀ c ∈ Y, clB c = true) (hl : X.length = Y.length) :
    ve (builtT P X S Y T) P.length = (P.length + X.length + 1 + (es S).length + 1 + Y.length : Nat) := by
  have hd : (builtT P X S Y T).drop P.length = X ++ 34 :: (es S ++ 34 :: (Y ++ T)) := drop_app _ _
  have hi : P.length < (builtT P X S Y T).length := by unfold builtT; simp; omega
  have hg : (builtT P X S Y T).getD P.length 0 = (X ++ 34 :: (es S ++ 34 :: (Y ++ T))).headD 0 := by
    have h := drop_cons _ _ hi
    rw [hd] at h
    rw [h]; rfl
  cases X with
  | nil =>
    have hY0 : Y = [] := List.eq_nil_of_length_eq_zero (by simpa using hl.symm)
    subst hY0
    have h34 : (builtT P [] S [] T).getD P.length 0 = 34 := hg
    have hd1 : (builtT P [] S [] T).drop (P.length + 1) = es S ++ 34 :: ([] ++ T) := by
      rw [← List.drop_drop, hd]; rfl
    rw [ve_str hi h34, hd1, seF_es]
    simp
  | cons c X =>
    have hc := hX c (List.mem_cons_self ..)
    have hop : opB ((builtT P (c :: X) S Y T).getD P.length 0) = true := by rw [hg]; exact hc
    rw [ve_br hi hop, hd, vb_open _ _ _ _ _ hX, vb, if_pos rfl, vb_es]
    have hYne : Y ≠ [] := by intro e; rw [e] at hl; simp at hl
    have e : (0 : Int) + ((c :: X).length : Int) = (Y.length : Int) := by omega
    rw [e, vb_close _ _ _ _ hYne hY]
    omega
end Go.Proofs.Qxb6001230aMods
