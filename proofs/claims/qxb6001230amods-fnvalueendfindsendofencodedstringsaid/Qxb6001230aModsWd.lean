import Derived.Test.Qxb6001230aModsWc
namespace Go.Proofs.Qxb6001230aMods
open Go.RowKit

set_option maxHeartbeats 400000 in
theorem zz12 (a : Option Addr) (zs : List Int) (cap i : Nat) (w : World) (hl : Ln w a zs) (hz : zs.length ≤ 2097152) (hi : i < zs.length) (hbd : ∀ z ∈ zs, 0 ≤ z ∧ z ≤ 255) :
    Calls Trym.prog 12 #[.slice a zs.length cap, .int .i64 i] w fun e w' => e = .returned (.int .i64 (ve zs i)) ∧ w' = w := by
  have h := val23 a zs cap i w hl hz hi hbd
  clear hl hbd
  go_enter Trym.func12, Trym.ntmps12
  go_wp2_with (go_at_call 23; refine h.mono ?_; rintro e wx ⟨rfl, hwx⟩; have hwx := hwx.symm; subst hwx)
  go_ret
  exact ⟨rfl, rfl⟩
set_option maxHeartbeats 400000 in
theorem zzpast12 (a : Option Addr) (n cap : Nat) (i : Int) (w : World) (hi : (n : Int) ≤ i) :
    Calls Trym.prog 12 #[.slice a n cap, .int .i64 i] w fun e w' => e = .returned (.int .i64 i) ∧ w' = w := by
  have h := past23 a n cap i w hi
  go_enter Trym.func12, Trym.ntmps12
  go_wp2_with (go_at_call 23; refine h.mono ?_; rintro e wx ⟨rfl, hwx⟩; have hwx := hwx.symm; subst hwx)
  go_ret
  exact ⟨rfl, rfl⟩

set_option maxHeartbeats 400000 in
theorem delim13 (c : Int) (w : World) : Calls Trym.prog 13 #[.int .u8 c] w fun e w' => e = .returned (.bool (delB c)) ∧ w' = w := by
  rcases (show c = 44 ∨ c = 58 ∨ c = 93 ∨ c = 125 ∨ c = 32 ∨ c = 9 ∨ c = 13 ∨ c = 10 ∨ (c ≠ 44 ∧ c ≠ 58 ∧ c ≠ 93 ∧ c ≠ 125 ∧ c ≠ 32 ∧ c ≠ 9 ∧ c ≠ 13 ∧ c ≠ 10) by omega) with rfl | rfl | rfl | rfl | rfl | rfl | rfl | rfl | ⟨h1, h2, h3, h4, h5, h6, h7, h8⟩
  iterate 8
    · go_enter Trym.func13, Trym.ntmps13
      go_wp2
      go_ret
      exact ⟨rfl, rfl⟩
  · have e : delB c = false := decide_eq_false (by omega)
    rw [e]
    have n1 : (c == 44) = false := by simpa using h1
    have n2 : (c == 58) = false := by simpa using h2
    have n3 : (c == 93) = false := by simpa using h3
    have n4 : (c == 125) = false := by simpa using h4
    have n5 : (c == 32) = false := by simpa using h5
    have n6 : (c == 9) = false := by simpa using h6
    have n7 : (c == 13) = false := by simpa using h7
    have n8 : (c == 10) = false := by simpa using h8
    clear h1 h2 h3 h4 h5 h6 h7 h8 e
    go_enter Trym.func13, Trym.ntmps13
    go_wp2
    go_ret
    exact ⟨rfl, rfl⟩

/-! the plain law -/
theorem vb_bd (n : Nat) : ∀ (R : List Int) (m : Nat) (d : Int) (k : Nat), k + R.length = n → (k : Int) ≤ vb n m R d k ∧ vb n m R d k ≤ n := by
  intro R
  induction R with
  | nil =>
    intro m d k h
    have : vb n m [] d k = n := by cases m <;> rfl
    rw [this]
    simp at h
    omega
  | cons c R ih =>
    intro m d k h
    have h' : k + 1 + R.length = n := by simp at h; omega
    have step : ∀ m' d', (k : Int) ≤ vb n m' R d' (k + 1) ∧ vb n m' R d' (k + 1) ≤ n := fun m' d' => by
      have := ih m' d' (k + 1) h'
      omega
    match m with
    | 0 =>
      rw [vb]
      split
      · exact step _ _
      · split
        · exact step _ _
        · split
          · split
            · omega
            · exact step _ _
          · exact step _ _
    | 1 =>
      rw [vb]
      split
      · exact step _ _
      · split <;> exact step _ _
    | m + 2 =>
      rw [vb]
      exact step _ _
theorem beF_bd : ∀ (R : List Int) (k : Nat), k ≤ beF R k ∧ beF R k ≤ k + R.length
  | [], k => by simp [beF]
  | c :: R, k => by
    have := beF_bd R (k + 1)
    rw [beF]
    split
    · simp
    · simp only [List.length_cons]; omega

theorem ve_law (L : List Int) (i : Nat) (hi : i < L.length) : ∃ r : Nat, ve L i = r ∧ i ≤ r ∧ r ≤ L.length ∧ (((r : Int) == (i : Int)) == delB (L.getD i 0)) = true := by
  have more : ∀ r : Nat, ve L i = r → i < r → r ≤ L.length → delB (L.getD i 0) = false → ∃ r : Nat, ve L i = r ∧ i ≤ r ∧ r ≤ L.length ∧ (((r : Int) == (i : Int)) == delB (L.getD i 0)) = true := fun r h1 h2 h3 h4 => by
    refine ⟨r, h1, by omega, h3, ?_⟩
    rw [h4, show ((r : Int) == (i : Int)) = false by rw [beq_eq_false_iff_ne]; omega]
    rfl
  by_cases h34 : L.getD i 0 = 34
  · obtain ⟨j, g1, g2, g3, _, _⟩ := vb_string L.length 0 (L.drop (i + 1)) (i + 1) false (by rw [List.length_drop]; omega)
    exact more j (by rw [ve_str hi h34, g1]) (by omega) g3 (by rw [h34]; rfl)
  by_cases hop : opB (L.getD i 0) = true
  · have hb := vb_bd L.length (L.drop (i + 1)) 0 1 (i + 1) (by rw [List.length_drop]; omega)
    have e : ve L i = vb L.length 0 (L.drop (i + 1)) 1 (i + 1) := by
      rw [ve_br hi hop, drop_cons L i hi, vb, if_neg h34, if_pos hop]
      rfl
    refine more (ve L i).toNat (by rw [e]; omega) (by rw [e]; omega) (by rw [e]; omega) ?_
    have := of_decide_eq_true hop
    rcases this with h | h <;> rw [h] <;> rfl
  · have hop' : opB (L.getD i 0) = false := by simpa using hop
    have e := ve_bare hi h34 hop'
    rw [drop_cons L i hi, beF] at e
    cases hd : delB (L.getD i 0) with
    | true =>
      rw [hd, if_pos rfl] at e
      exact ⟨i, e, Nat.le_refl _, by omega, by simp⟩
    | false =>
      rw [hd, if_neg (by decide)] at e
      have hb := beF_bd (L.drop (i + 1)) (i + 1)
      rw [List.length_drop] at hb
      have := more (beF (L.drop (i + 1)) (i + 1)) e (by omega) (by omega) hd
      rwa [hd] at this

set_option maxHeartbeats 400000 in
theorem bytes10 (i : Int) (a : Option Addr) (n c : Nat) (w : World) (h : n ≤ maxLen) : Calls Trym.prog 10 #[.slice a n c, .int .i64 i] w (SomeBool w) := by
  unfold maxLen at h
  go_enter Trym.func10, Trym.ntmps10
  go_wp2
  all_goals go_ret
  all_goals exact ⟨_, rfl, rfl⟩

set_option maxHeartbeats 1000000 in
set_option maxRecDepth 100000 in
theorem main3 (ao : Option Addr) (zs : List Int) (cap : Nat) (i : Int) (w : World) (hm : zs.length ≤ maxLen) (hnil : ao = none → zs = []) (hcell : ∀ x, ao = some x → ∀ k, k < zs.length → w.cell? (x.add k) = some (.int .u8 (zs.getD k 0)))
    (hbd : ∀ z ∈ zs, 0 ≤ z ∧ z ≤ 255) :
    Calls Trym.prog 3 #[.slice ao zs.length cap, .int .i64 i] w fun e w' => e = .returned (.bool true) ∧ Below w.heap.size w w' := by
  have h10 := bytes10 i ao zs.length cap w hm
  unfold maxLen at hm
  by_cases hz : ¬ (zs.length ≤ 1048576 ∧ 0 ≤ i)
  · clear hnil hcell
    go_enter Trym.func3, Trym.ntmps3
    go_upto_region 7 with (go_at_call 10; refine h10.mono ?_; rintro e wx ⟨r, rfl, hwx⟩; have hwx := hwx.symm; subst hwx)
    all_goals first | (go_ret; exact ⟨rfl, Below.refl _ _⟩) | (exfalso; omega)
  have hz' : zs.length ≤ 1048576 := by omega
  have hi0 : 0 ≤ i := by omega
  clear hz
  have h11 := clone11 ao zs cap w hz' hnil hcell
  have HBd : Hid (∀ z ∈ zs, 0 ≤ z ∧ z ≤ 255) := hbd
  clear hnil hcell hbd
  by_cases hin : (zs.length : Int) ≤ i
  · go_enter Trym.func3, Trym.ntmps3
    go_wp2_with (first
      | (go_at_call 10; refine h10.mono ?_; rintro e wx ⟨r, rfl, hwx⟩; have hwx := hwx.symm; subst hwx)
      | (go_at_call 11; refine h11.mono ?_; rintro e w1 ⟨a', cap', rfl, hcap, hb1, hl1⟩)
      | (go_at_call 12; refine (zzpast12 _ _ _ _ _ hin).mono ?_; rintro e wx ⟨rfl, hwx⟩; have hwx := hwx.symm; subst hwx))
    all_goals first | (go_ret; exact ⟨rfl, Below.refl _ _⟩) | (go_ret; exact ⟨ret_bool (by simp), hb1⟩)
  · obtain ⟨m, rfl⟩ := Int.eq_ofNat_of_zero_le hi0
    have hml : m < zs.length := by omega
    obtain ⟨r, hr1, hr2, hr3, hr4'⟩ := ve_law zs m hml
    have HR4 : Hid ((((r : Int) == (m : Int)) == delB (zs.getD m 0)) = true) := hr4'
    clear hr4'
    go_enter Trym.func3, Trym.ntmps3
    go_upto_region 9 with (first
      | (go_at_call 10; refine h10.mono ?_; rintro e wx ⟨rb, rfl, hwx⟩; have hwx := hwx.symm; subst hwx)
      | (go_at_call 11; refine h11.mono ?_; rintro e w1 ⟨a', cap', rfl, hcap, hb1, hl1⟩)
      | (go_at_call 12; refine (zz12 _ zs _ m _ hl1 (by omega) hml HBd.out).mono ?_; rintro e wx ⟨rfl, hwx⟩; have hwx := hwx.symm; subst hwx))
    · go_ret
      exact ⟨rfl, Below.refl _ _⟩
    rcases hl1 with rfl | ⟨b, off, rfl, hc⟩
    · simp at hml
    have hcm := hc m hml
    obtain ⟨c, HC⟩ : ∃ c, Hid (zs.getD m 0 = c) := ⟨_, rfl⟩
    rw [HC.out] at hcm HR4
    clear hc hr1 h10 h11
    go_wp2_with (go_at_call 13; refine (delim13 _ _).mono ?_; rintro e wx ⟨rfl, hwx⟩; have hwx := hwx.symm; subst hwx)
    go_ret
    exact ⟨ret_bool HR4.out, hb1⟩
end Go.Proofs.Qxb6001230aMods
