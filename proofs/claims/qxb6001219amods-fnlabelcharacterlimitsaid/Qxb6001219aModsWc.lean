import Derived.Test.Qxb6001219aModsWb
namespace Go.Proofs.Qxb6001219aMods
open Go.RowKit

set_option maxHeartbeats 400000 in
theorem zzdest15 (s : ByteArray) (w : World) (hs : s.size ≤ 4194304) :
    Calls Trym.prog 15 #[.string s] w fun e w' => e = .returned (.int .i64 (dest (bl s))) ∧ w' = w := by
  go_enter Trym.func15, Trym.ntmps15
  go_wp2_with (go_at_call 22; refine (dest22 s w hs).mono ?_; rintro e wx ⟨rfl, hwx⟩; have hwx := hwx.symm; subst hwx)
  go_ret
  exact ⟨rfl, rfl⟩

/-! the plain law -/
theorem pun_ok (c : Int) (h : pun c = true) : c ≠ 10 ∧ 32 < c ∧ c ≠ 127 := by
  unfold pun at h
  have := of_decide_eq_true h
  omega

theorem ang_shape (L : List Int) : ∀ (m k : Nat) (b : Bool), L.length - k = m → (∀ j, j < k → L.getD j 0 ≠ 10) → (b = true → L.getD k 0 ≠ 10) →
    angF b (L.drop k) k = -1 ∨ ∃ n : Nat, angF b (L.drop k) k = n ∧ k < n ∧ n ≤ L.length ∧ L.getD (n - 1) 0 = 62 ∧ ∀ j, j < n → L.getD j 0 ≠ 10 := by
  intro m
  induction m with
  | zero =>
    intro k b hm _ _
    exact .inl (ang_end L k (by omega) b)
  | succ m ih =>
    intro k b hm h1 h2
    have hk : k < L.length := by omega
    cases b with
    | true =>
      rw [ang_skip L k hk]
      rcases ih (k + 1) false (by omega) (fun j hj => by
        by_cases e : j = k
        · rw [e]; exact h2 rfl
        · exact h1 j (by omega)) (fun h => by cases h) with h | ⟨n, g1, g2, g3⟩
      · exact .inl h
      · exact .inr ⟨n, g1, by omega, g3⟩
    | false =>
      rw [ang_step L k hk rfl]
      split
      · rename_i h62
        refine .inr ⟨k + 1, by omega, by omega, by omega, by simpa using h62, fun j hj => ?_⟩
        by_cases e : j = k
        · rw [e, h62]; decide
        · exact h1 j (by omega)
      · split
        · exact .inl rfl
        · rename_i h62 hno
          rcases ih (k + 1) (decide (L.getD k 0 = 92) && pun (L.getD (k + 1) 0)) (by omega) (fun j hj => by
            by_cases e : j = k
            · rw [e]; exact fun h => hno (.inr h)
            · exact h1 j (by omega)) (fun h => by
              simp only [Bool.and_eq_true] at h
              exact (pun_ok _ h.2).1) with h | ⟨n, g1, g2, g3⟩
          · exact .inl h
          · exact .inr ⟨n, g1, by omega, g3⟩

/-- a byte that a bare destination may hold -/
def okD (c : Int) : Prop := 32 < c ∧ c ≠ 127

theorem fin_shape (L : List Int) (dep k : Nat) (hk : k ≤ L.length) (h1 : ∀ j, j < k → okD (L.getD j 0)) (h2 : k = L.length ∨ L.getD k 0 ≤ 32 ∨ L.getD k 0 = 127 ∨ L.getD k 0 = 41) :
    fin dep k = -1 ∨ ∃ n : Nat, fin dep k = n ∧ 1 ≤ n ∧ n ≤ L.length ∧ (∀ j, j < n → okD (L.getD j 0)) ∧ (n = L.length ∨ L.getD n 0 ≤ 32 ∨ L.getD n 0 = 127 ∨ L.getD n 0 = 41) := by
  unfold fin
  split
  · exact .inl rfl
  · exact .inr ⟨k, rfl, by omega, hk, h1, h2⟩

theorem bare_shape (L : List Int) : ∀ (m k dep : Nat) (b : Bool), L.length - k = m → k ≤ L.length → (∀ j, j < k → okD (L.getD j 0)) → (b = true → okD (L.getD k 0)) →
    bareF b (L.drop k) dep k = -1 ∨ ∃ n : Nat, bareF b (L.drop k) dep k = n ∧ 1 ≤ n ∧ n ≤ L.length ∧ (∀ j, j < n → okD (L.getD j 0)) ∧ (n = L.length ∨ L.getD n 0 ≤ 32 ∨ L.getD n 0 = 127 ∨ L.getD n 0 = 41) := by
  intro m
  induction m with
  | zero =>
    intro k dep b hm hk h1 _
    rw [bare_end L dep k (by omega) b]
    exact fin_shape L dep k hk h1 (.inl (by omega))
  | succ m ih =>
    intro k dep b hm hkl h1 h2
    have hk : k < L.length := by omega
    have next : ∀ (dep : Nat) (b' : Bool), okD (L.getD k 0) → (b' = true → okD (L.getD (k + 1) 0)) →
        bareF b' (L.drop (k + 1)) dep (k + 1) = -1 ∨ ∃ n : Nat, bareF b' (L.drop (k + 1)) dep (k + 1) = n ∧ 1 ≤ n ∧ n ≤ L.length ∧ (∀ j, j < n → okD (L.getD j 0)) ∧ (n = L.length ∨ L.getD n 0 ≤ 32 ∨ L.getD n 0 = 127 ∨ L.getD n 0 = 41) :=
      fun dep b' ho hb' => ih (k + 1) dep b' (by omega) (by omega) (fun j hj => by
        by_cases e : j = k
        · rw [e]; exact ho
        · exact h1 j (by omega)) hb'
    cases b with
    | true =>
      rw [bare_skip L dep k hk]
      exact next dep false (h2 rfl) (fun h => by cases h)
    | false =>
      rw [bare_step L dep k hk rfl]
      split
      · rename_i h
        exact fin_shape L dep k hkl h1 (.inr (by rcases h with h | h; exact .inl h; exact .inr (.inl h)))
      · rename_i hno
        have ho : okD (L.getD k 0) := ⟨by omega, by omega⟩
        split
        · exact next _ false ho (fun h => by cases h)
        · split
          · rename_i h41
            split
            · exact fin_shape L dep k hkl h1 (.inr (.inr (.inr h41)))
            · exact next _ false ho (fun h => by cases h)
          · refine next _ _ ho (fun h => ?_)
            simp only [Bool.and_eq_true] at h
            exact (pun_ok _ h.2).2

/-- what FnDestinationShape asks of the answer -/
def Shape (L : List Int) (r : Int) : Prop :=
  r = -1 ∨ ∃ n : Nat, r = n ∧ 1 ≤ n ∧ n ≤ L.length ∧
    ((L.getD 0 0 = 60 ∧ 2 ≤ n ∧ L.getD (n - 1) 0 = 62 ∧ ∀ j, j < n → L.getD j 0 ≠ 10) ∨
     (L.getD 0 0 ≠ 60 ∧ (∀ j, j < n → okD (L.getD j 0)) ∧ (n = L.length ∨ L.getD n 0 ≤ 32 ∨ L.getD n 0 = 127 ∨ L.getD n 0 = 41)))

theorem dest_shape (L : List Int) : Shape L (dest L) := by
  have e0 : L.headD 0 = L.getD 0 0 := by cases L <;> rfl
  unfold dest
  split
  · rename_i h
    rw [e0] at h
    rcases ang_shape L _ 1 false rfl (fun j hj => by
      have : j = 0 := by omega
      rw [this, h]; decide) (fun h => by cases h) with h' | ⟨n, g1, g2, g3, g4, g5⟩
    · exact .inl h'
    · exact .inr ⟨n, g1, by omega, g3, .inl ⟨h, g2, g4, g5⟩⟩
  · rename_i h
    rw [e0] at h
    rcases bare_shape L _ 0 0 false rfl (Nat.zero_le _) (fun j hj => by omega) (fun h => by cases h) with h' | ⟨n, g1, g2, g3, g4, g5⟩
    · exact .inl h'
    · exact .inr ⟨n, g1, g2, g3, .inr ⟨h, g4, g5⟩⟩
end Go.Proofs.Qxb6001219aMods
