import Derived.Test.Qxb6000713aModsWg
import Derived.Laws.StandIn
import Derived.Lib.Bytealg
import Derived.Deep.QuietTactic
import Derived.BigQuiet
namespace Go.Proofs.Qxb6000713aMods
open Go.RowKit

theorem run62 (s : ByteArray) (c : Int) (w : World) :
    (callFunc 62 #[.string s, .int .u8 c]).run Trym.prog w = .ok (.value (.int .i64 (Lib.indexByte s.data.toList c.toNat.toUInt8))) w := by
  rw [run_callFunc_indexByte Trym.func62 (by kernel_rfl) (by kernel_rfl) (by kernel_rfl) (by kernel_rfl), Lib.run_indexByteString]
  rfl

set_option maxHeartbeats 400000 in
theorem index53 (s : ByteArray) (c : Int) (w : World) :
    Calls Trym.prog 53 #[.string s, .int .u8 c] w fun e w' => e = .returned (.int .i64 (Lib.indexByte s.data.toList c.toNat.toUInt8)) ∧ w' = w := by
  have h62 := run62
  go_enter Trym.func53, Trym.ntmps53
  go_wp2
  go_ret
  exact ⟨rfl, rfl⟩

/-- a blank, or the end -/
def beB (zs : List Int) (i : Nat) : Bool := decide (zs.length ≤ i) || blB (zs.getD i 0)

set_option maxHeartbeats 400000 in
theorem be42 (a : Option Addr) (zs : List Int) (cap i : Nat) (w : World) (hl : Ln w a zs) (hz : zs.length ≤ 1048576) (hi : i ≤ zs.length + 1) :
    Calls Trym.prog 42 #[.slice a zs.length cap, .int .i64 i] w fun e w' => e = .returned (.bool (beB zs i)) ∧ w' = w := by
  by_cases hlt : i < zs.length
  · rcases hl with rfl | ⟨b, off, rfl, hc⟩
    · simp at hlt
    have hck := hc i hlt
    clear hc
    have hbe : beB zs i = blB (zs.getD i 0) := by unfold beB; rw [decide_eq_false (by omega)]; rfl
    rw [hbe]
    obtain ⟨c, HC⟩ : ∃ c, Hid (zs.getD i 0 = c) := ⟨_, rfl⟩
    rw [HC.out] at hck ⊢
    clear hbe
    go_enter Trym.func42, Trym.ntmps42
    go_wp2_with (go_at_call 50; refine (blank50 _ _).mono ?_; rintro e w' ⟨rfl, rfl⟩)
    go_ret
    exact ⟨ret_bool (by rw [decide_eq_false (by omega)]; rfl), rfl⟩
  · have hbe : beB zs i = true := by unfold beB; rw [decide_eq_true (by omega)]; rfl
    rw [hbe]
    go_enter Trym.func42, Trym.ntmps42
    go_wp2
    go_ret
    exact ⟨rfl, rfl⟩

/-- what plainEnd answers in block style -/
def PE (zs : List Int) (i E : Nat) (cm : Bool) : Prop :=
  i ≤ E ∧ E ≤ zs.length ∧ (cm = true ∨ E = zs.length ∨ (E < zs.length ∧ zs.getD E 0 = 58 ∧ beB zs (E + 1) = true))

set_option maxHeartbeats 1000000 in
theorem plain54 (a : Option Addr) (zs : List Int) (cap i : Nat) (w : World) (hl : Ln w a zs) (hz : zs.length ≤ 1048576) (hi : i ≤ zs.length) :
    Calls Trym.prog 54 #[.slice a zs.length cap, .int .i64 i, .bool false] w fun e w' =>
      ∃ (E : Nat) (cm : Bool), e = .returned (.tuple #[.int .i64 E, .bool cm]) ∧ w' = w ∧ PE zs i E cm := by
  go_enter Trym.func54, Trym.ntmps54
  go_wp2
  go_loop [1] (fun t => ∃ k : Nat, i ≤ k ∧ k ≤ zs.length ∧ t = .int .i64 k) (fun t => zs.length - (intOf t).toNat)
  case atStart => exact ⟨i, Nat.le_refl _, hi, rfl⟩
  case round =>
    obtain ⟨k, hik, hk, rfl⟩ := hrel
    go_wp2
    go_loop [1] (fun t => ∃ k2 : Nat, k ≤ k2 ∧ k2 ≤ zs.length ∧ t = .int .i64 k2) (fun t => zs.length - (intOf t).toNat)
    case atStart => exact ⟨k, Nat.le_refl _, hk, rfl⟩
    case round =>
      obtain ⟨k2, hkk, hk2, rfl⟩ := hrel
      by_cases hlt : k2 < zs.length
      · have hln := hl
        rcases hl with rfl | ⟨b, off, rfl, hc⟩
        · simp at hlt
        have hck := hc k2 hlt
        obtain ⟨c, HC⟩ : ∃ c, Hid (zs.getD k2 0 = c) := ⟨_, rfl⟩
        rw [HC.out] at hck
        by_cases hb : blB c = true
        · -- a blank: the inner loop ends
          have hsk := skip41 (some ⟨b, off, none⟩) zs cap k2 w hln hz hk2
          obtain ⟨s1, s2, s3, _⟩ := sk_spec zs _ (k2 + 1) rfl (by omega)
          rw [← sk_yes zs k2 hlt (by rw [HC.out]; exact hb)] at s1 s2 s3
          obtain ⟨m, HM⟩ : ∃ m, Hid (sk zs k2 = m) := ⟨_, rfl⟩
          rw [HM.out] at s1 s2 s3 hsk
          clear s3
          by_cases hm : m = zs.length
          · have hmm : ((m : Int) == (zs.length : Int)) = true := by simp [hm]
            have hml : ¬ m < zs.length := by omega
            have HP : Hid (PE zs i m false) := ⟨by omega, s2, .inr (.inl hm)⟩
            clear hm hc
            go_wp2_with (first | (go_at_call 50; refine (blank50 _ _).mono ?_; rintro e wx ⟨rfl, hwx⟩; have hwx := hwx.symm; subst hwx) | (go_at_call 41; refine hsk.mono ?_; rintro e wx ⟨rfl, hwx⟩; have hwx := hwx.symm; subst hwx))
            go_ret2
            exact ⟨m, _, rfl, rfl, HP.out⟩
          · have hml : m < zs.length := by omega
            have hmm : ((m : Int) == (zs.length : Int)) = false := by simp; omega
            have hcm := hc m hml
            obtain ⟨d, HD⟩ : ∃ d, Hid (zs.getD m 0 = d) := ⟨_, rfl⟩
            rw [HD.out] at hcm
            clear hm hc
            by_cases hd : d = 35
            · subst hd
              have HP : Hid (PE zs i m true) := ⟨by omega, s2, .inl rfl⟩
              go_wp2_with (first | (go_at_call 50; refine (blank50 _ _).mono ?_; rintro e wx ⟨rfl, hwx⟩; have hwx := hwx.symm; subst hwx) | (go_at_call 41; refine hsk.mono ?_; rintro e wx ⟨rfl, hwx⟩; have hwx := hwx.symm; subst hwx))
              go_ret2
              exact ⟨m, _, rfl, rfl, HP.out⟩
            · have hd' : (d == 35) = false := by simpa using hd
              clear hd
              go_wp2_with (first | (go_at_call 50; refine (blank50 _ _).mono ?_; rintro e wx ⟨rfl, hwx⟩; have hwx := hwx.symm; subst hwx) | (go_at_call 41; refine hsk.mono ?_; rintro e wx ⟨rfl, hwx⟩; have hwx := hwx.symm; subst hwx))
              go_round
              case rel => exact ⟨m, by omega, by omega, rfl⟩
              case measure => simp [intOf]; omega
        · have hb' : blB c = false := by simpa using hb
          clear hb
          have hbe := be42 (some ⟨b, off, none⟩) zs cap (k2 + 1) w hln hz (by omega)
          by_cases hc58 : c = 58
          · subst hc58
            by_cases he : beB zs (k2 + 1) = true
            · have HP : Hid (PE zs i k2 false) := ⟨by omega, hk2, .inr (.inr ⟨hlt, HC.out, he⟩)⟩
              clear hc
              go_wp2_with (first | (go_at_call 50; refine (blank50 _ _).mono ?_; rintro e wx ⟨rfl, hwx⟩; have hwx := hwx.symm; subst hwx) | (go_at_call 42; refine hbe.mono ?_; rintro e wx ⟨rfl, hwx⟩; have hwx := hwx.symm; subst hwx))
              go_ret2
              exact ⟨k2, _, rfl, rfl, HP.out⟩
            · have he' : beB zs (k2 + 1) = false := by simpa using he
              clear hc he
              go_wp2_with (first | (go_at_call 50; refine (blank50 _ _).mono ?_; rintro e wx ⟨rfl, hwx⟩; have hwx := hwx.symm; subst hwx) | (go_at_call 42; refine hbe.mono ?_; rintro e wx ⟨rfl, hwx⟩; have hwx := hwx.symm; subst hwx))
              go_round
              case rel => exact ⟨k2 + 1, by omega, by omega, by go_num⟩
              case measure => simp [intOf]; omega
          · have hc' : (c == 58) = false := by simpa using hc58
            clear hc hc58
            go_wp2_with (first | (go_at_call 50; refine (blank50 _ _).mono ?_; rintro e wx ⟨rfl, hwx⟩; have hwx := hwx.symm; subst hwx) | (go_at_call 42; refine hbe.mono ?_; rintro e wx ⟨rfl, hwx⟩; have hwx := hwx.symm; subst hwx))
            go_round
            case rel => exact ⟨k2 + 1, by omega, by omega, by go_num⟩
            case measure => simp [intOf]; omega
      · have hsk := skip41 a zs cap k2 w hl hz hk2
        rw [sk_end zs k2 (by omega)] at hsk
        have hmm : ((k2 : Int) == (zs.length : Int)) = true := by simp; omega
        have HP : Hid (PE zs i k2 false) := ⟨by omega, hk2, .inr (.inl (by omega))⟩
        go_wp2_with (go_at_call 41; refine hsk.mono ?_; rintro e wx ⟨rfl, hwx⟩; have hwx := hwx.symm; subst hwx)
        go_ret2
        exact ⟨k2, _, rfl, rfl, HP.out⟩
end Go.Proofs.Qxb6000713aMods
