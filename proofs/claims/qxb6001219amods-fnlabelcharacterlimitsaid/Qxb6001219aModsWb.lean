import Derived.Test.Qxb6001219aModsWa
import Derived.WalkMore
namespace Go.Proofs.Qxb6001219aMods
open Go.RowKit

/-! the plain side of destination -/
def angF : Bool → List Int → Nat → Int
  | _, [], _ => -1
  | true, _ :: r, i => angF false r (i + 1)
  | false, c :: r, i => if c = 62 then (i : Int) + 1 else if c = 60 ∨ c = 10 then -1 else angF (decide (c = 92) && pun (r.headD 0)) r (i + 1)
def fin (dep : Int) (i : Nat) : Int := if i = 0 ∨ dep ≠ 0 then -1 else i
def bareF : Bool → List Int → Nat → Nat → Int
  | _, [], dep, i => fin dep i
  | true, _ :: r, dep, i => bareF false r dep (i + 1)
  | false, c :: r, dep, i => if c ≤ 32 ∨ c = 127 then fin dep i else if c = 40 then bareF false r (dep + 1) (i + 1)
      else if c = 41 then (if dep = 0 then fin dep i else bareF false r (dep - 1) (i + 1)) else bareF (decide (c = 92) && pun (r.headD 0)) r dep (i + 1)
def dest (L : List Int) : Int := if L.headD 0 = 60 then angF false (L.drop 1) 1 else bareF false L 0 0

theorem hidE {p : Prop} (h : p) : Hid p := h
theorem drop_cons (L : List Int) (k : Nat) (h : k < L.length) : L.drop k = L.getD k 0 :: L.drop (k + 1) := by
  rw [List.drop_eq_getElem_cons h, List.getD_eq_getElem?_getD, List.getElem?_eq_getElem h]
  rfl
theorem headD_drop (L : List Int) (k : Nat) : (L.drop k).headD 0 = L.getD k 0 := by
  by_cases h : k < L.length
  · rw [drop_cons L k h]; rfl
  · rw [List.drop_of_length_le (by omega), List.getD_eq_getElem?_getD, List.getElem?_eq_none (by omega)]; rfl

/-- one step of angF at place k -/
theorem ang_step (L : List Int) (k : Nat) (h : k < L.length) {c : Int} (hc : L.getD k 0 = c) : angF false (L.drop k) k =
    if c = 62 then (k : Int) + 1 else if c = 60 ∨ c = 10 then -1 else angF (decide (c = 92) && pun (L.getD (k + 1) 0)) (L.drop (k + 1)) (k + 1) := by
  rw [drop_cons L k h, angF, headD_drop, hc]
theorem ang_skip (L : List Int) (k : Nat) (h : k < L.length) : angF true (L.drop k) k = angF false (L.drop (k + 1)) (k + 1) := by
  rw [drop_cons L k h, angF]
theorem ang_end (L : List Int) (k : Nat) (h : L.length ≤ k) (b : Bool) : angF b (L.drop k) k = -1 := by
  rw [List.drop_of_length_le h]; cases b <;> rfl
theorem bare_step (L : List Int) (dep k : Nat) (h : k < L.length) {c : Int} (hc : L.getD k 0 = c) : bareF false (L.drop k) dep k =
    if c ≤ 32 ∨ c = 127 then fin dep k else if c = 40 then bareF false (L.drop (k + 1)) (dep + 1) (k + 1)
      else if c = 41 then (if dep = 0 then fin dep k else bareF false (L.drop (k + 1)) (dep - 1) (k + 1)) else bareF (decide (c = 92) && pun (L.getD (k + 1) 0)) (L.drop (k + 1)) dep (k + 1) := by
  rw [drop_cons L k h, bareF, headD_drop, hc]
theorem bare_skip (L : List Int) (dep k : Nat) (h : k < L.length) : bareF true (L.drop k) dep k = bareF false (L.drop (k + 1)) dep (k + 1) := by
  rw [drop_cons L k h, bareF]
theorem bare_end (L : List Int) (dep k : Nat) (h : L.length ≤ k) (b : Bool) : bareF b (L.drop k) dep k = fin dep k := by
  rw [List.drop_of_length_le h]; cases b <;> rfl
theorem pun_far (L : List Int) (k : Nat) (h : L.length ≤ k) : pun (L.getD k 0) = false := by
  rw [List.getD_eq_getElem?_getD, List.getElem?_eq_none h]; rfl

/-! the walk -/
set_option maxHeartbeats 1000000 in
set_option maxRecDepth 100000 in
theorem dest22 (s : ByteArray) (w : World) (hs : s.size ≤ 4194304) :
    Calls Trym.prog 22 #[.string s] w fun e w' => e = .returned (.int .i64 (dest (bl s))) ∧ w' = w := by
  have hpre := prefix23 s 60 w (by unfold maxLen; omega)
  have hL := bl_length s
  by_cases h60 : (bl s).headD 0 = 60
  · have h0 : 0 < s.size := by
      rcases Nat.eq_zero_or_pos s.size with h | h
      · have : bl s = [] := List.eq_nil_of_length_eq_zero (by omega)
        rw [this] at h60; cases h60
      · exact h
    have hg0 : (bl s).getD 0 0 = 60 := by rw [← headD_drop]; exact h60
    rw [decide_eq_true (p := 0 < s.size ∧ (bl s).getD 0 0 = (60 : UInt8).toNat) ⟨h0, hg0⟩] at hpre
    have HD : Hid (dest (bl s) = angF false ((bl s).drop 1) 1) := if_pos h60
    clear h60 hg0
    go_enter Trym.func22, Trym.ntmps22
    go_wp2
    go_step3
    go_wp2_with (go_at_call 23; refine hpre.mono ?_; rintro e wx ⟨rfl, hwx⟩; have hwx := hwx.symm; subst hwx)
    go_loop [3] (fun t => ∃ k : Nat, k ≤ s.size ∧ t = .int .i64 k ∧ Hid (angF false ((bl s).drop k) k = dest (bl s))) (fun t => s.size - (intOf t).toNat)
    case atStart => exact ⟨1, h0, rfl, HD.out.symm⟩
    case round =>
      obtain ⟨k, hk, rfl, HK⟩ := hrel
      clear HD
      by_cases hlt : k < s.size
      · have hck := bl_at s k hlt
        obtain ⟨c, HC⟩ : ∃ c, Hid ((bl s).getD k 0 = c) := ⟨_, rfl⟩
        rw [HC.out] at hck
        have hst := ang_step (bl s) k (by omega) HC.out
        rw [HK.out] at hst
        by_cases h62 : c = 62
        · have HR : Hid (dest (bl s) = (k : Int) + 1) := hidE (by rw [hst, if_pos h62])
          subst h62
          clear hst
          go_wp2
          first | go_ret | (rw [Exit.noGoto_ret]; go_ret)
          exact ⟨ret_int HR.out.symm, rfl⟩
        rw [if_neg h62] at hst
        have n62 : (c == 62) = false := by simpa using h62
        by_cases h60 : c = 60
        · have HR : Hid (dest (bl s) = -1) := hidE (by rw [hst, if_pos (.inl h60)])
          subst h60
          clear hst
          go_wp2
          first | go_ret | (rw [Exit.noGoto_ret]; go_ret)
          exact ⟨ret_int HR.out.symm, rfl⟩
        have n60 : (c == 60) = false := by simpa using h60
        by_cases h10 : c = 10
        · have HR : Hid (dest (bl s) = -1) := hidE (by rw [hst, if_pos (.inr h10)])
          subst h10
          clear hst
          go_wp2
          first | go_ret | (rw [Exit.noGoto_ret]; go_ret)
          exact ⟨ret_int HR.out.symm, rfl⟩
        have n10 : (c == 10) = false := by simpa using h10
        rw [if_neg (by omega)] at hst
        by_cases h92 : c = 92
        · subst h92
          by_cases hn : k + 1 < s.size
          · have hdk := bl_at s (k + 1) hn
            have hbd := bl_bd s (k + 1)
            obtain ⟨d, HDd⟩ : ∃ d, Hid ((bl s).getD (k + 1) 0 = d) := ⟨_, rfl⟩
            rw [HDd.out] at hdk hbd hst
            have hpn := fun w => punct24 d w hbd.1 hbd.2
            by_cases hp : pun d = true
            · have HR : Hid (angF false ((bl s).drop (k + 2)) (k + 2) = dest (bl s)) := hidE (by
                rw [hst, hp, ← ang_skip (bl s) (k + 1) (by omega)]; rfl)
              clear hst hbd
              go_wp2_with (go_at_call 24; refine (hpn _).mono ?_; rintro e wx ⟨rfl, hwx⟩; have hwx := hwx.symm; subst hwx)
              go_round
              case rel => exact ⟨k + 2, by omega, by go_num, HR⟩
              case measure => simp [intOf]; omega
            · have hp' : pun d = false := by simpa using hp
              have HR : Hid (angF false ((bl s).drop (k + 1)) (k + 1) = dest (bl s)) := hidE (by rw [hst, hp']; rfl)
              clear hst hbd hp
              go_wp2_with (go_at_call 24; refine (hpn _).mono ?_; rintro e wx ⟨rfl, hwx⟩; have hwx := hwx.symm; subst hwx)
              go_round
              case rel => exact ⟨k + 1, by omega, by go_num, HR⟩
              case measure => simp [intOf]; omega
          · have HR : Hid (angF false ((bl s).drop (k + 1)) (k + 1) = dest (bl s)) := hidE (by rw [hst, pun_far _ _ (by omega)]; rfl)
            clear hst
            go_wp2
            go_round
            case rel => exact ⟨k + 1, by omega, by go_num, HR⟩
            case measure => simp [intOf]; omega
        · have n92 : (c == 92) = false := by simpa using h92
          have HR : Hid (angF false ((bl s).drop (k + 1)) (k + 1) = dest (bl s)) := hidE (by rw [hst, decide_eq_false h92]; rfl)
          clear hst h92 h10 h60 h62
          go_wp2
          go_round
          case rel => exact ⟨k + 1, by omega, by go_num, HR⟩
          case measure => simp [intOf]; omega
      · have HR : Hid (dest (bl s) = -1) := hidE (by rw [← HK.out, ang_end _ _ (by omega)])
        go_wp2
        first | go_ret | (rw [Exit.noGoto_ret]; go_ret)
        exact ⟨ret_int HR.out.symm, rfl⟩
  · have hd : decide (0 < s.size ∧ (bl s).getD 0 0 = (60 : UInt8).toNat) = false := decide_eq_false (by
      rintro ⟨_, h⟩
      rw [← headD_drop] at h
      exact h60 h)
    rw [hd] at hpre
    have HD : Hid (dest (bl s) = bareF false ((bl s).drop 0) 0 0) := if_neg h60
    clear h60 hd
    go_enter Trym.func22, Trym.ntmps22
    go_wp2
    go_step3
    go_wp2_with (go_at_call 23; refine hpre.mono ?_; rintro e wx ⟨rfl, hwx⟩; have hwx := hwx.symm; subst hwx)
    go_step3
    go_wp2
    go_loop [4, 5] (fun d t => ∃ k dep : Nat, k ≤ s.size ∧ dep ≤ k ∧ t = .int .i64 k ∧ d = .int .i64 dep ∧ Hid (bareF false ((bl s).drop k) dep k = dest (bl s))) (fun _ t => s.size - (intOf t).toNat)
    case atStart => exact ⟨0, 0, Nat.zero_le _, Nat.le_refl _, rfl, rfl, HD.out.symm⟩
    case round =>
      obtain ⟨k, dep, hk, hdk, rfl, rfl, HK⟩ := hrel
      clear HD
      by_cases hlt : k < s.size
      · have hck := bl_at s k hlt
        obtain ⟨c, HC⟩ : ∃ c, Hid ((bl s).getD k 0 = c) := ⟨_, rfl⟩
        rw [HC.out] at hck
        have hst := bare_step (bl s) dep k (by omega) HC.out
        rw [HK.out] at hst
        by_cases h32 : c ≤ 32
        · rw [if_pos (.inl h32)] at hst
          by_cases hf : k = 0 ∨ dep ≠ 0
          · have HR : Hid (dest (bl s) = -1) := hidE (by rw [hst]; exact if_pos (by omega))
            clear hst
            rcases (show k = 0 ∨ (0 < k ∧ 0 < dep) by omega) with rfl | ⟨hk0, hd0⟩
            · go_wp2
              first | go_ret | (rw [Exit.noGoto_ret]; go_ret)
              exact ⟨ret_int HR.out.symm, rfl⟩
            · have e1 : ((k : Int) == 0) = false := by simp; omega
              have e2 : ((dep : Int) != 0) = true := by simp; omega
              have e3 : ((dep : Int) == 0) = false := by simp; omega
              go_wp2
              first | go_ret | (rw [Exit.noGoto_ret]; go_ret)
              exact ⟨ret_int HR.out.symm, rfl⟩
          · have HR : Hid (dest (bl s) = k) := hidE (by rw [hst]; exact if_neg (by omega))
            obtain rfl : dep = 0 := by omega
            have e1 : ((k : Int) == 0) = false := by simp; omega
            clear hst
            go_wp2
            first | go_ret | (rw [Exit.noGoto_ret]; go_ret)
            exact ⟨ret_int HR.out.symm, rfl⟩
        have h32' : 32 < c := by omega
        by_cases h127 : c = 127
        · rw [if_pos (.inr h127)] at hst
          subst h127
          by_cases hf : k = 0 ∨ dep ≠ 0
          · have HR : Hid (dest (bl s) = -1) := hidE (by rw [hst]; exact if_pos (by omega))
            clear hst
            rcases (show k = 0 ∨ (0 < k ∧ 0 < dep) by omega) with rfl | ⟨hk0, hd0⟩
            · go_wp2
              first | go_ret | (rw [Exit.noGoto_ret]; go_ret)
              exact ⟨ret_int HR.out.symm, rfl⟩
            · have e1 : ((k : Int) == 0) = false := by simp; omega
              have e2 : ((dep : Int) != 0) = true := by simp; omega
              have e3 : ((dep : Int) == 0) = false := by simp; omega
              go_wp2
              first | go_ret | (rw [Exit.noGoto_ret]; go_ret)
              exact ⟨ret_int HR.out.symm, rfl⟩
          · have HR : Hid (dest (bl s) = k) := hidE (by rw [hst]; exact if_neg (by omega))
            obtain rfl : dep = 0 := by omega
            have e1 : ((k : Int) == 0) = false := by simp; omega
            clear hst
            go_wp2
            first | go_ret | (rw [Exit.noGoto_ret]; go_ret)
            exact ⟨ret_int HR.out.symm, rfl⟩
        have n127 : (c != 127) = true := by simpa using h127
        rw [if_neg (by omega)] at hst
        by_cases h40 : c = 40
        · rw [if_pos h40] at hst
          subst h40
          have HR : Hid (bareF false ((bl s).drop (k + 1)) (dep + 1) (k + 1) = dest (bl s)) := hst.symm
          clear hst
          go_wp2
          go_round
          case rel => exact ⟨k + 1, dep + 1, by omega, by omega, by go_num, by go_num, HR⟩
          case measure => simp [intOf]; omega
        have n40 : (c == 40) = false := by simpa using h40
        rw [if_neg h40] at hst
        by_cases h41 : c = 41
        · rw [if_pos h41] at hst
          subst h41
          by_cases hd0 : dep = 0
          · rw [if_pos hd0] at hst
            subst hd0
            by_cases hk0 : k = 0
            · subst hk0
              have HR : Hid (dest (bl s) = -1) := hst
              clear hst
              go_wp2
              first | go_ret | (rw [Exit.noGoto_ret]; go_ret)
              exact ⟨ret_int HR.out.symm, rfl⟩
            · have HR : Hid (dest (bl s) = k) := hidE (by rw [hst]; exact if_neg (by omega))
              have e1 : ((k : Int) == 0) = false := by simp; omega
              clear hst
              go_wp2
              first | go_ret | (rw [Exit.noGoto_ret]; go_ret)
              exact ⟨ret_int HR.out.symm, rfl⟩
          · rw [if_neg hd0] at hst
            have HR : Hid (bareF false ((bl s).drop (k + 1)) (dep - 1) (k + 1) = dest (bl s)) := hst.symm
            have e1 : ((dep : Int) == 0) = false := by simp; omega
            have e2 : (1 : Int) ≤ (dep : Int) := by omega
            clear hst
            go_wp2
            go_round
            case rel => exact ⟨k + 1, dep - 1, by omega, by omega, by go_num, by go_num, HR⟩
            case measure => simp [intOf]; omega
        have n41 : (c == 41) = false := by simpa using h41
        rw [if_neg h41] at hst
        by_cases h92 : c = 92
        · subst h92
          by_cases hn : k + 1 < s.size
          · have hdk' := bl_at s (k + 1) hn
            have hbd := bl_bd s (k + 1)
            obtain ⟨d, HDd⟩ : ∃ d, Hid ((bl s).getD (k + 1) 0 = d) := ⟨_, rfl⟩
            rw [HDd.out] at hdk' hbd hst
            have hpn := fun w => punct24 d w hbd.1 hbd.2
            by_cases hp : pun d = true
            · have HR : Hid (bareF false ((bl s).drop (k + 2)) dep (k + 2) = dest (bl s)) := hidE (by
                rw [hst, hp, ← bare_skip (bl s) dep (k + 1) (by omega)]; rfl)
              clear hst hbd
              go_wp2_with (go_at_call 24; refine (hpn _).mono ?_; rintro e wx ⟨rfl, hwx⟩; have hwx := hwx.symm; subst hwx)
              go_round
              case rel => exact ⟨k + 2, dep, by omega, by omega, by go_num, rfl, HR⟩
              case measure => simp [intOf]; omega
            · have hp' : pun d = false := by simpa using hp
              have HR : Hid (bareF false ((bl s).drop (k + 1)) dep (k + 1) = dest (bl s)) := hidE (by rw [hst, hp']; rfl)
              clear hst hbd hp
              go_wp2_with (go_at_call 24; refine (hpn _).mono ?_; rintro e wx ⟨rfl, hwx⟩; have hwx := hwx.symm; subst hwx)
              go_round
              case rel => exact ⟨k + 1, dep, by omega, by omega, by go_num, rfl, HR⟩
              case measure => simp [intOf]; omega
          · have HR : Hid (bareF false ((bl s).drop (k + 1)) dep (k + 1) = dest (bl s)) := hidE (by rw [hst, pun_far _ _ (by omega)]; rfl)
            clear hst
            go_wp2
            go_round
            case rel => exact ⟨k + 1, dep, by omega, by omega, by go_num, rfl, HR⟩
            case measure => simp [intOf]; omega
        · have n92 : (c == 92) = false := by simpa using h92
          have HR : Hid (bareF false ((bl s).drop (k + 1)) dep (k + 1) = dest (bl s)) := hidE (by rw [hst, decide_eq_false h92]; rfl)
          clear hst h92 h40 h41 h127 h32
          go_wp2
          go_round
          case rel => exact ⟨k + 1, dep, by omega, by omega, by go_num, rfl, HR⟩
          case measure => simp [intOf]; omega
      · have hst : dest (bl s) = fin dep k := by rw [← HK.out, bare_end _ _ _ (by omega)]
        by_cases hf : k = 0 ∨ dep ≠ 0
        · have HR : Hid (dest (bl s) = -1) := hidE (by rw [hst]; exact if_pos (by omega))
          clear hst
          rcases (show k = 0 ∨ (0 < k ∧ 0 < dep) by omega) with rfl | ⟨hk0, hd0⟩
          · go_wp2
            first | go_ret | (rw [Exit.noGoto_ret]; go_ret)
            exact ⟨ret_int HR.out.symm, rfl⟩
          · have e1 : ((k : Int) == 0) = false := by simp; omega
            have e2 : ((dep : Int) != 0) = true := by simp; omega
            have e3 : ((dep : Int) == 0) = false := by simp; omega
            go_wp2
            first | go_ret | (rw [Exit.noGoto_ret]; go_ret)
            exact ⟨ret_int HR.out.symm, rfl⟩
        · have HR : Hid (dest (bl s) = k) := hidE (by rw [hst]; exact if_neg (by omega))
          obtain rfl : dep = 0 := by omega
          have e1 : ((k : Int) == 0) = false := by simp; omega
          clear hst
          go_wp2
          first | go_ret | (rw [Exit.noGoto_ret]; go_ret)
          exact ⟨ret_int HR.out.symm, rfl⟩
end Go.Proofs.Qxb6001219aMods
