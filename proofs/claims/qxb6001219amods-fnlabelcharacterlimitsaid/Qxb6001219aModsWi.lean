import Derived.Test.Qxb6001219aModsWh
namespace Go.Proofs.Qxb6001219aMods
open Go.RowKit

/-- the class of a byte, for the count -/
theorem cnt_cases (c : Int) (ch : Nat) : (c < 128 ∧ cnt c ch = ch + 1) ∨ (128 ≤ c ∧ c < 192 ∧ cnt c ch = ch) ∨ (192 ≤ c ∧ cnt c ch = ch + 1) := by
  unfold cnt
  by_cases h1 : c < 128
  · exact .inl ⟨h1, if_pos (.inl h1)⟩
  · by_cases h2 : 192 ≤ c
    · exact .inr (.inr ⟨h2, if_pos (.inr h2)⟩)
    · exact .inr (.inl ⟨by omega, by omega, if_neg (by omega)⟩)

set_option maxHeartbeats 2000000 in
set_option maxRecDepth 100000 in
theorem label21 (s : ByteArray) (w : World) (hs : s.size ≤ 4194304) :
    Calls Trym.prog 21 #[.string s] w fun e w' => e = .returned (.int .i64 (lab (bl s))) ∧ w' = w := by
  have hpre := prefix23 s 91 w (by unfold maxLen; omega)
  have hL := bl_length s
  by_cases h91 : ¬ (bl s).headD 0 = 91
  · have hd : decide (0 < s.size ∧ (bl s).getD 0 0 = (91 : UInt8).toNat) = false := decide_eq_false (by
      rintro ⟨_, h⟩
      rw [← headD_drop] at h
      exact h91 h)
    rw [hd] at hpre
    have HD : Hid (lab (bl s) = 0) := if_neg h91
    clear h91 hd
    go_enter Trym.func21, Trym.ntmps21
    go_wp2_with (go_at_call 23; refine hpre.mono ?_; rintro e wx ⟨rfl, hwx⟩; have hwx := hwx.symm; subst hwx)
    go_ret
    exact ⟨ret_int HD.out.symm, rfl⟩
  have h91' : (bl s).headD 0 = 91 := by omega
  have h0 : 0 < s.size := by
    rcases Nat.eq_zero_or_pos s.size with h | h
    · have : bl s = [] := List.eq_nil_of_length_eq_zero (by omega)
      rw [this] at h91'; cases h91'
    · exact h
  have hg0 : (bl s).getD 0 0 = 91 := by rw [← headD_drop]; exact h91'
  rw [decide_eq_true (p := 0 < s.size ∧ (bl s).getD 0 0 = (91 : UInt8).toNat) ⟨h0, hg0⟩] at hpre
  have HD : Hid (lab (bl s) = labF false ((bl s).drop 1) true 0 1) := if_pos h91'
  clear h91 h91' hg0
  go_enter Trym.func21, Trym.ntmps21
  go_wp2_with (go_at_call 23; refine hpre.mono ?_; rintro e wx ⟨rfl, hwx⟩; have hwx := hwx.symm; subst hwx)
  go_loop [3, 4, 5] (fun n q t => ∃ (k ch : Nat) (b : Bool), k ≤ s.size ∧ ch ≤ 999 ∧ t = .int .i64 k ∧ n = .int .i64 ch ∧ q = .bool b ∧ Hid (labF false ((bl s).drop k) b ch k = lab (bl s))) (fun _ _ t => s.size - (intOf t).toNat)
  case atStart => exact ⟨1, 0, true, h0, by omega, rfl, rfl, rfl, HD.out.symm⟩
  case round =>
    obtain ⟨k, ch, b, hk, hch, rfl, rfl, rfl, HK⟩ := hrel
    clear HD
    by_cases hlt : k < s.size
    · have hck := bl_at s k hlt
      obtain ⟨c, HC⟩ : ∃ c, Hid ((bl s).getD k 0 = c) := ⟨_, rfl⟩
      rw [HC.out] at hck
      have hst := lab_step (bl s) k (by omega) b ch HC.out
      rw [HK.out] at hst
      by_cases h91 : c = 91
      · have HR : Hid (lab (bl s) = 0) := hidE (by rw [hst, if_pos h91])
        subst h91
        clear hst
        go_wp2
        go_ret
        exact ⟨ret_int HR.out.symm, rfl⟩
      have n91 : (c == 91) = false := by simpa using h91
      rw [if_neg h91] at hst
      by_cases h93 : c = 93
      · rw [if_pos h93] at hst
        subst h93
        cases b with
        | true =>
          have HR : Hid (lab (bl s) = 0) := hst
          clear hst
          go_wp2
          go_ret
          exact ⟨ret_int HR.out.symm, rfl⟩
        | false =>
          have HR : Hid (lab (bl s) = (k : Int) + 1) := hst
          clear hst
          go_wp2
          go_ret
          exact ⟨ret_int HR.out.symm, rfl⟩
      have n93 : (c == 93) = false := by simpa using h93
      rw [if_neg h93] at hst
      by_cases h92 : c = 92
      · subst h92
        by_cases hn : k + 1 < s.size
        · have hdk := bl_at s (k + 1) hn
          have hbd := bl_bd s (k + 1)
          obtain ⟨d, HDd⟩ : ∃ d, Hid ((bl s).getD (k + 1) 0 = d) := ⟨_, rfl⟩
          rw [HDd.out] at hdk hbd hst
          have hpn := fun w => punct24 d w hbd.1 hbd.2
          by_cases hp : pun d = true
          · rw [if_pos ⟨rfl, hp⟩] at hst
            have hd128 : d < 128 := by unfold pun at hp; have := of_decide_eq_true hp; omega
            by_cases h9 : 999 < ch + 2
            · have HR : Hid (lab (bl s) = 0) := hidE (by rw [hst, if_pos h9])
              clear hst hbd
              go_wp2_with (go_at_call 24; refine (hpn _).mono ?_; rintro e wx ⟨rfl, hwx⟩; have hwx := hwx.symm; subst hwx)
              go_ret
              exact ⟨ret_int HR.out.symm, rfl⟩
            · rw [if_neg h9, lab_skip (bl s) (k + 1) (by omega)] at hst
              have HR : Hid (labF false ((bl s).drop (k + 2)) false (ch + 2) (k + 2) = lab (bl s)) := hst.symm
              clear hst hbd
              go_wp2_with (go_at_call 24; refine (hpn _).mono ?_; rintro e wx ⟨rfl, hwx⟩; have hwx := hwx.symm; subst hwx)
              go_round
              case rel => exact ⟨k + 2, ch + 2, false, by omega, by omega, by go_num, by go_num, rfl, HR⟩
              case measure => simp [intOf]; omega
          · have hp' : pun d = false := by simpa using hp
            rw [if_neg (fun h => hp h.2)] at hst
            by_cases h9 : 999 < ch + 1
            · have HR : Hid (lab (bl s) = 0) := hidE (by rw [hst]; exact if_pos h9)
              clear hst hbd hp
              go_wp2_with (go_at_call 24; refine (hpn _).mono ?_; rintro e wx ⟨rfl, hwx⟩; have hwx := hwx.symm; subst hwx)
              go_ret
              exact ⟨ret_int HR.out.symm, rfl⟩
            · have HR : Hid (labF false ((bl s).drop (k + 1)) false (ch + 1) (k + 1) = lab (bl s)) := hidE (by
                rw [hst]
                refine ((if_neg h9).trans ?_).symm
                rw [show (b && isBl 92) = false by cases b <;> rfl]
                rfl)
              clear hst hbd hp
              go_wp2_with (go_at_call 24; refine (hpn _).mono ?_; rintro e wx ⟨rfl, hwx⟩; have hwx := hwx.symm; subst hwx)
              go_round
              case rel => exact ⟨k + 1, ch + 1, false, by omega, by omega, by go_num, by go_num, rfl, HR⟩
              case measure => simp [intOf]; omega
        · rw [if_neg (by rintro ⟨_, h⟩; rw [pun_far _ _ (by omega)] at h; cases h)] at hst
          by_cases h9 : 999 < ch + 1
          · have HR : Hid (lab (bl s) = 0) := hidE (by rw [hst]; exact if_pos h9)
            clear hst
            go_wp2
            go_ret
            exact ⟨ret_int HR.out.symm, rfl⟩
          · have HR : Hid (labF false ((bl s).drop (k + 1)) false (ch + 1) (k + 1) = lab (bl s)) := hidE (by
              rw [hst]
              refine ((if_neg h9).trans ?_).symm
              rw [show (b && isBl 92) = false by cases b <;> rfl]
              rfl)
            clear hst
            go_wp2
            go_round
            case rel => exact ⟨k + 1, ch + 1, false, by omega, by omega, by go_num, by go_num, rfl, HR⟩
            case measure => simp [intOf]; omega
      have n92 : (c == 92) = false := by simpa using h92
      rw [if_neg (fun h => h92 h.1)] at hst
      rcases (show c = 32 ∨ c = 9 ∨ c = 10 ∨ (c ≠ 32 ∧ c ≠ 9 ∧ c ≠ 10) by omega) with rfl | rfl | rfl | ⟨g1, g2, g3⟩
      · by_cases h9 : 999 < ch + 1
        · have HR : Hid (lab (bl s) = 0) := hidE (by rw [hst]; exact if_pos h9)
          clear hst h91 h93 h92
          go_wp2
          go_ret
          exact ⟨ret_int HR.out.symm, rfl⟩
        · have HR : Hid (labF false ((bl s).drop (k + 1)) b (ch + 1) (k + 1) = lab (bl s)) := hidE (by
            rw [hst]
            refine ((if_neg h9).trans ?_).symm
            rw [show (b && isBl _) = b by cases b <;> rfl]
            rfl)
          clear hst h91 h93 h92
          go_wp2
          go_round
          case rel => exact ⟨k + 1, ch + 1, b, by omega, by omega, by go_num, by go_num, rfl, HR⟩
          case measure => simp [intOf]; omega
      · by_cases h9 : 999 < ch + 1
        · have HR : Hid (lab (bl s) = 0) := hidE (by rw [hst]; exact if_pos h9)
          clear hst h91 h93 h92
          go_wp2
          go_ret
          exact ⟨ret_int HR.out.symm, rfl⟩
        · have HR : Hid (labF false ((bl s).drop (k + 1)) b (ch + 1) (k + 1) = lab (bl s)) := hidE (by
            rw [hst]
            refine ((if_neg h9).trans ?_).symm
            rw [show (b && isBl _) = b by cases b <;> rfl]
            rfl)
          clear hst h91 h93 h92
          go_wp2
          go_round
          case rel => exact ⟨k + 1, ch + 1, b, by omega, by omega, by go_num, by go_num, rfl, HR⟩
          case measure => simp [intOf]; omega
      · by_cases h9 : 999 < ch + 1
        · have HR : Hid (lab (bl s) = 0) := hidE (by rw [hst]; exact if_pos h9)
          clear hst h91 h93 h92
          go_wp2
          go_ret
          exact ⟨ret_int HR.out.symm, rfl⟩
        · have HR : Hid (labF false ((bl s).drop (k + 1)) b (ch + 1) (k + 1) = lab (bl s)) := hidE (by
            rw [hst]
            refine ((if_neg h9).trans ?_).symm
            rw [show (b && isBl _) = b by cases b <;> rfl]
            rfl)
          clear hst h91 h93 h92
          go_wp2
          go_round
          case rel => exact ⟨k + 1, ch + 1, b, by omega, by omega, by go_num, by go_num, rfl, HR⟩
          case measure => simp [intOf]; omega
      · have m1 : (c == 32) = false := by simpa using g1
        have m2 : (c == 9) = false := by simpa using g2
        have m3 : (c == 10) = false := by simpa using g3
        have eb : (b && isBl c) = false := by
          rw [show isBl c = false from decide_eq_false (by omega)]
          cases b <;> rfl
        rw [eb] at hst
        clear eb g1 g2 g3 h91 h92 h93
        rcases cnt_cases c ch with ⟨hc1, hcn⟩ | ⟨hc1, hc2, hcn⟩ | ⟨hc1, hcn⟩
        all_goals
          rw [hcn] at hst
          clear hcn
        · by_cases h9 : 999 < ch + 1
          · have HR : Hid (lab (bl s) = 0) := hidE (by rw [hst, if_pos h9])
            clear hst
            go_wp2
            go_ret
            exact ⟨ret_int HR.out.symm, rfl⟩
          · have HR : Hid (labF false ((bl s).drop (k + 1)) false (ch + 1) (k + 1) = lab (bl s)) := hidE (by rw [hst, if_neg h9])
            clear hst
            go_wp2
            go_round
            case rel => exact ⟨k + 1, ch + 1, false, by omega, by omega, by go_num, by go_num, rfl, HR⟩
            case measure => simp [intOf]; omega
        · have HR : Hid (labF false ((bl s).drop (k + 1)) false ch (k + 1) = lab (bl s)) := hidE (by rw [hst, if_neg (by omega)])
          clear hst
          go_wp2
          go_round
          case rel => exact ⟨k + 1, ch, false, by omega, by omega, by go_num, by go_num, rfl, HR⟩
          case measure => simp [intOf]; omega
        · by_cases h9 : 999 < ch + 1
          · have HR : Hid (lab (bl s) = 0) := hidE (by rw [hst, if_pos h9])
            clear hst
            go_wp2
            go_ret
            exact ⟨ret_int HR.out.symm, rfl⟩
          · have HR : Hid (labF false ((bl s).drop (k + 1)) false (ch + 1) (k + 1) = lab (bl s)) := hidE (by rw [hst, if_neg h9])
            clear hst
            go_wp2
            go_round
            case rel => exact ⟨k + 1, ch + 1, false, by omega, by omega, by go_num, by go_num, rfl, HR⟩
            case measure => simp [intOf]; omega
    · have HR : Hid (lab (bl s) = 0) := hidE (by rw [← HK.out, lab_end _ _ (by omega)])
      go_wp2
      go_ret
      exact ⟨ret_int HR.out.symm, rfl⟩

set_option maxHeartbeats 400000 in
theorem zzlabel10 (s : ByteArray) (w : World) (hs : s.size ≤ 4194304) :
    Calls Trym.prog 10 #[.string s] w fun e w' => e = .returned (.int .i64 (lab (bl s))) ∧ w' = w := by
  go_enter Trym.func10, Trym.ntmps10
  go_wp2_with (go_at_call 21; refine (label21 s w hs).mono ?_; rintro e wx ⟨rfl, hwx⟩; have hwx := hwx.symm; subst hwx)
  go_ret
  exact ⟨rfl, rfl⟩

/-- what labelUnit hands back: no unit, or one that the plain law holds of -/
def UnitP (w : World) (e : Ending) (w' : World) : Prop :=
  ∃ (u : ByteArray) (wt : Int), e = .returned (.tuple #[.string u, .int .i64 wt]) ∧ w' = w ∧ (wt = -1 ∨ (0 ≤ wt ∧ wt ≤ 2 ∧ u.size ≤ 4 ∧ LabLaw (bl u) wt))

set_option maxHeartbeats 400000 in
theorem unit13 (u : Int) (w : World) : Calls Trym.prog 13 #[.int .i64 u] w (UnitP w) := by
  rcases (show u = 0 ∨ u = 1 ∨ u = 2 ∨ u = 3 ∨ u = 4 ∨ u = 5 ∨ u = 6 ∨ (u ≠ 0 ∧ u ≠ 1 ∧ u ≠ 2 ∧ u ≠ 3 ∧ u ≠ 4 ∧ u ≠ 5 ∧ u ≠ 6) by omega) with rfl | rfl | rfl | rfl | rfl | rfl | rfl | ⟨h0, h1, h2, h3, h4, h5, h6⟩
  · go_enter Trym.func13, Trym.ntmps13
    go_wp2
    go_ret2
    exact ⟨_, _, rfl, rfl, .inr ⟨by decide, by decide, by decide, law1 u_a⟩⟩
  · go_enter Trym.func13, Trym.ntmps13
    go_wp2
    go_ret2
    exact ⟨_, _, rfl, rfl, .inr ⟨by decide, by decide, by decide, law1 u_e⟩⟩
  · go_enter Trym.func13, Trym.ntmps13
    go_wp2
    go_ret2
    exact ⟨_, _, rfl, rfl, .inr ⟨by decide, by decide, by decide, law1 u_eur⟩⟩
  · go_enter Trym.func13, Trym.ntmps13
    go_wp2
    go_ret2
    exact ⟨_, _, rfl, rfl, .inr ⟨by decide, by decide, by decide, law1 u_smile⟩⟩
  · go_enter Trym.func13, Trym.ntmps13
    go_wp2
    go_ret2
    exact ⟨_, _, rfl, rfl, .inr ⟨by decide, by decide, by decide, law1 u_esc⟩⟩
  · go_enter Trym.func13, Trym.ntmps13
    go_wp2
    go_ret2
    exact ⟨_, _, rfl, rfl, .inr ⟨by decide, by decide, by decide, law0 u_sp⟩⟩
  · go_enter Trym.func13, Trym.ntmps13
    go_wp2
    go_ret2
    exact ⟨_, _, rfl, rfl, .inr ⟨by decide, by decide, by decide, law0 u_nl⟩⟩
  · have n0 : (u == 0) = false := by simpa using h0
    have n1 : (u == 1) = false := by simpa using h1
    have n2 : (u == 2) = false := by simpa using h2
    have n3 : (u == 3) = false := by simpa using h3
    have n4 : (u == 4) = false := by simpa using h4
    have n5 : (u == 5) = false := by simpa using h5
    have n6 : (u == 6) = false := by simpa using h6
    clear h0 h1 h2 h3 h4 h5 h6
    go_enter Trym.func13, Trym.ntmps13
    go_wp2
    go_ret2
    exact ⟨_, _, rfl, rfl, .inl rfl⟩
end Go.Proofs.Qxb6001219aMods
