import Derived.Test.Qxb6001230aModsWb
namespace Go.Proofs.Qxb6001230aMods
open Go.RowKit

def delS : ByteArray := ⟨#[44, 58, 93, 125, 32, 9, 13, 10]⟩
theorem del_all : ∀ n : Fin 256, decide (0 ≤ Lib.indexByte delS.data.toList (n.val.toUInt8)) = delB (n.val : Int) := by decide +kernel
theorem del_eq (c : Int) (h0 : 0 ≤ c) (h1 : c ≤ 255) : decide (0 ≤ Lib.indexByte delS.data.toList c.toNat.toUInt8) = delB c := by
  obtain ⟨n, rfl⟩ := Int.eq_ofNat_of_zero_le h0
  have := del_all ⟨n, by omega⟩
  simpa using this

theorem run29 (s : ByteArray) (c : Int) (w : World) :
    (callFunc 29 #[.string s, .int .u8 c]).run Trym.prog w = .ok (.value (.int .i64 (Lib.indexByte s.data.toList c.toNat.toUInt8))) w := by
  rw [run_callFunc_indexByte Trym.func29 (by kernel_rfl) (by kernel_rfl) (by kernel_rfl) (by kernel_rfl), Lib.run_indexByteString]
  rfl

set_option maxHeartbeats 400000 in
theorem index27 (s : ByteArray) (c : Int) (w : World) :
    Calls Trym.prog 27 #[.string s, .int .u8 c] w fun e w' => e = .returned (.int .i64 (Lib.indexByte s.data.toList c.toNat.toUInt8)) ∧ w' = w := by
  have h29 := run29
  go_enter Trym.func27, Trym.ntmps27
  go_wp2
  go_ret
  exact ⟨rfl, rfl⟩

set_option maxHeartbeats 400000 in
theorem past23 (a : Option Addr) (n cap : Nat) (i : Int) (w : World) (hi : (n : Int) ≤ i) :
    Calls Trym.prog 23 #[.slice a n cap, .int .i64 i] w fun e w' => e = .returned (.int .i64 i) ∧ w' = w := by
  go_enter Trym.func23, Trym.ntmps23
  go_wp2
  go_ret
  exact ⟨rfl, rfl⟩

theorem ve_str {L : List Int} {i : Nat} (hi : i < L.length) (h : L.getD i 0 = 34) : ve L i = seF L.length false (L.drop (i + 1)) (i + 1) := by
  unfold ve; rw [if_neg (by omega), if_pos h]
theorem ve_br {L : List Int} {i : Nat} (hi : i < L.length) (h : opB (L.getD i 0) = true) : ve L i = vb L.length 0 (L.drop i) 0 i := by
  have h34 : L.getD i 0 ≠ 34 := by intro e; rw [e] at h; cases h
  unfold ve; rw [if_neg (by omega), if_neg h34, if_pos h]
theorem ve_bare {L : List Int} {i : Nat} (hi : i < L.length) (h34 : L.getD i 0 ≠ 34) (h : opB (L.getD i 0) = false) : ve L i = beF (L.drop i) i := by
  unfold ve; rw [if_neg (by omega), if_neg h34, if_neg (by rw [h]; decide)]

set_option maxHeartbeats 2000000 in
set_option maxRecDepth 100000 in
theorem val23 (a : Option Addr) (zs : List Int) (cap i : Nat) (w : World) (hl : Ln w a zs) (hz : zs.length ≤ 2097152) (hi : i < zs.length) (hbd : ∀ z ∈ zs, 0 ≤ z ∧ z ≤ 255) :
    Calls Trym.prog 23 #[.slice a zs.length cap, .int .i64 i] w fun e w' => e = .returned (.int .i64 (ve zs i)) ∧ w' = w := by
  have hstr := fun (k : Nat) (hk : k < zs.length) (c : Nat) => str26 a zs c k w hl hz hk
  rcases hl with rfl | ⟨b, off, rfl, hc⟩
  · simp at hi
  have HCc : Hid (∀ k, k < zs.length → w.cell? ⟨b, off + k, none⟩ = some (.int .u8 (zs.getD k 0))) := hc
  have HB : Hid (∀ k, k < zs.length → 0 ≤ zs.getD k 0 ∧ zs.getD k 0 ≤ 255) := fun k hk => hbd _ (by
    rw [List.getD_eq_getElem?_getD, List.getElem?_eq_getElem hk]
    exact List.getElem_mem hk)
  have hci := hc i hi
  clear hc hbd
  obtain ⟨ci, HCi⟩ : ∃ c, Hid (zs.getD i 0 = c) := ⟨_, rfl⟩
  rw [HCi.out] at hci
  by_cases h34 : ci = 34
  · have hv := ve_str hi (HCi.out.trans h34)
    have h26 := hstr i hi cap
    rw [← hv] at h26
    subst h34
    clear hv hstr
    go_enter Trym.func23, Trym.ntmps23
    go_wp2_with (go_at_call 26; refine h26.mono ?_; rintro e wx ⟨rfl, hwx⟩; have hwx := hwx.symm; subst hwx)
    go_ret
    exact ⟨rfl, rfl⟩
  have n34 : (ci == 34) = false := by simpa using h34
  have hdi : decide (zs.length ≤ i) = false := decide_eq_false (by omega)
  by_cases hop : ci = 91 ∨ ci = 123
  · have hv := ve_br hi (by rw [HCi.out]; exact decide_eq_true hop)
    obtain ⟨R, HRd⟩ : ∃ R, Hid (ve zs i = R) := ⟨_, rfl⟩
    rw [HRd.out] at hv ⊢
    have HV : Hid (vb zs.length 0 (zs.drop i) 0 i = R) := hv.symm
    clear hv h34 HRd
    rcases hop with rfl | rfl
    all_goals
      go_enter Trym.func23, Trym.ntmps23
      go_wp2
      go_loop [1, 5] (fun t q => ∃ (k : Nat) (d : Int), k ≤ zs.length ∧ -(k : Int) ≤ d ∧ d ≤ k ∧ t = .int .i64 k ∧ q = .int .i64 d ∧ Hid (vb zs.length 0 (zs.drop k) d k = R)) (fun t _ => zs.length - (intOf t).toNat)
      case atStart => exact ⟨i, 0, by omega, by omega, by omega, rfl, rfl, HV⟩
      case round =>
        obtain ⟨k, d, hk, hd1, hd2, rfl, rfl, HK⟩ := hrel
        clear HV hci
        by_cases hlt : k < zs.length
        · have hck := HCc.out k hlt
          have hst := HK.out
          rw [drop_cons zs k hlt, vb] at hst
          have h26 := hstr k hlt cap
          obtain ⟨c, HC⟩ : ∃ c, Hid (zs.getD k 0 = c) := ⟨_, rfl⟩
          rw [HC.out] at hck hst
          by_cases h34 : c = 34
          · rw [if_pos h34] at hst
            subst h34
            obtain ⟨j, g1, g2, g3, g4, _⟩ := vb_string zs.length d (zs.drop (k + 1)) (k + 1) false (by rw [List.length_drop]; omega)
            rw [g1] at h26
            rw [if_neg (by decide), List.drop_drop, show k + 1 + (j - (k + 1)) = j by omega] at g4
            rw [g4] at hst
            have HN : Hid (vb zs.length 0 (zs.drop j) d j = R) := hst
            clear hst HK g1 g4 hstr
            go_wp2_with (go_at_call 26; refine h26.mono ?_; rintro e wx ⟨rfl, hwx⟩; have hwx := hwx.symm; subst hwx)
            go_round
            case rel => exact ⟨j, d, by omega, by omega, by omega, by go_num, rfl, HN⟩
            case measure => simp [intOf]; omega
          rw [if_neg h34] at hst
          have n34 : (c == 34) = false := by simpa using h34
          clear h26 hstr
          rcases (show c = 91 ∨ c = 123 ∨ c = 93 ∨ c = 125 ∨ (c ≠ 91 ∧ c ≠ 123 ∧ c ≠ 93 ∧ c ≠ 125) by omega) with rfl | rfl | rfl | rfl | ⟨g1, g2, g3, g4⟩
          · have HN : Hid (vb zs.length 0 (zs.drop (k + 1)) (d + 1) (k + 1) = R) := hst
            clear hst HK
            go_wp2
            go_round
            case rel => exact ⟨k + 1, d + 1, by omega, by omega, by omega, by go_num, by go_num, HN⟩
            case measure => simp [intOf]; omega
          · have HN : Hid (vb zs.length 0 (zs.drop (k + 1)) (d + 1) (k + 1) = R) := hst
            clear hst HK
            go_wp2
            go_round
            case rel => exact ⟨k + 1, d + 1, by omega, by omega, by omega, by go_num, by go_num, HN⟩
            case measure => simp [intOf]; omega
          · by_cases hd0 : d - 1 = 0
            · have HN : Hid ((k : Int) + 1 = R) := hidE (by rw [← hst]; exact (if_pos hd0).symm)
              have e1 : (d - 1 == 0) = true := by simp [hd0]
              clear hst HK hd0
              go_wp2
              go_ret
              exact ⟨ret_int HN.out, rfl⟩
            · have HN : Hid (vb zs.length 0 (zs.drop (k + 1)) (d - 1) (k + 1) = R) := hidE (by rw [← hst]; exact (if_neg hd0).symm)
              have e1 : (d - 1 == 0) = false := by simpa using hd0
              clear hst HK hd0
              go_wp2
              go_round
              case rel => exact ⟨k + 1, d - 1, by omega, by omega, by omega, by go_num, by go_num, HN⟩
              case measure => simp [intOf]; omega
          · by_cases hd0 : d - 1 = 0
            · have HN : Hid ((k : Int) + 1 = R) := hidE (by rw [← hst]; exact (if_pos hd0).symm)
              have e1 : (d - 1 == 0) = true := by simp [hd0]
              clear hst HK hd0
              go_wp2
              go_ret
              exact ⟨ret_int HN.out, rfl⟩
            · have HN : Hid (vb zs.length 0 (zs.drop (k + 1)) (d - 1) (k + 1) = R) := hidE (by rw [← hst]; exact (if_neg hd0).symm)
              have e1 : (d - 1 == 0) = false := by simpa using hd0
              clear hst HK hd0
              go_wp2
              go_round
              case rel => exact ⟨k + 1, d - 1, by omega, by omega, by omega, by go_num, by go_num, HN⟩
              case measure => simp [intOf]; omega
          · have n1 : (c == 91) = false := by simpa using g1
            have n2 : (c == 123) = false := by simpa using g2
            have n3 : (c == 93) = false := by simpa using g3
            have n4 : (c == 125) = false := by simpa using g4
            have eo : opB c = false := decide_eq_false (by omega)
            have ec : clB c = false := decide_eq_false (by omega)
            rw [eo, ec, if_neg (by decide), if_neg (by decide)] at hst
            have HN : Hid (vb zs.length 0 (zs.drop (k + 1)) d (k + 1) = R) := hst
            clear hst HK g1 g2 g3 g4 eo ec h34
            go_wp2
            go_round
            case rel => exact ⟨k + 1, d, by omega, by omega, by omega, by go_num, rfl, HN⟩
            case measure => simp [intOf]; omega
        · have HN : Hid ((zs.length : Int) = R) := hidE (by rw [← HK.out, List.drop_of_length_le (by omega)]; rfl)
          clear HK
          go_wp2
          go_ret
          exact ⟨ret_int HN.out, rfl⟩
  · have n91 : (ci == 91) = false := by simp; omega
    have n123 : (ci == 123) = false := by simp; omega
    have hv := ve_bare hi (by rw [HCi.out]; exact h34) (by rw [HCi.out]; exact decide_eq_false hop)
    obtain ⟨R, HRd⟩ : ∃ R, Hid (beF (zs.drop i) i = R) := ⟨_, rfl⟩
    rw [hv, HRd.out]
    clear hv h34 hop hstr
    go_enter Trym.func23, Trym.ntmps23
    go_wp2
    go_loop [1] (fun t => ∃ k : Nat, k ≤ zs.length ∧ t = .int .i64 k ∧ Hid (beF (zs.drop k) k = R)) (fun t => zs.length - (intOf t).toNat)
    case atStart => exact ⟨i, by omega, rfl, HRd⟩
    case round =>
      obtain ⟨k, hk, rfl, HK⟩ := hrel
      clear HRd hci
      by_cases hlt : k < zs.length
      · have hck := HCc.out k hlt
        have hbk := HB.out k hlt
        have hst := HK.out
        rw [drop_cons zs k hlt, beF] at hst
        obtain ⟨c, HC⟩ : ∃ c, Hid (zs.getD k 0 = c) := ⟨_, rfl⟩
        rw [HC.out] at hck hst hbk
        have h27 := index27 delS c w
        have HDe : Hid (decide (0 ≤ Lib.indexByte delS.data.toList c.toNat.toUInt8) = delB c) := del_eq c hbk.1 hbk.2
        obtain ⟨r, HR⟩ : ∃ r, Hid (Lib.indexByte delS.data.toList c.toNat.toUInt8 = r) := ⟨_, rfl⟩
        rw [HR.out] at h27
        have hde : decide (0 ≤ r) = delB c := by rw [← HR.out]; exact HDe.out
        cases hdb : delB c with
        | true =>
          rw [hdb] at hde hst
          have hr0 : 0 ≤ r := of_decide_eq_true hde
          rw [if_pos rfl] at hst
          have HN : Hid (k = R) := hst
          clear hst HK hde hdb HDe HR hbk
          go_wp2_with (go_at_call 27; refine h27.mono ?_; rintro e wx ⟨rfl, hwx⟩; have hwx := hwx.symm; subst hwx)
          go_ret
          exact ⟨ret_int (by rw [HN.out]), rfl⟩
        | false =>
          rw [hdb] at hde hst
          have hr0 : r < 0 := by have := of_decide_eq_false hde; omega
          rw [if_neg (by decide)] at hst
          have HN : Hid (beF (zs.drop (k + 1)) (k + 1) = R) := hst
          clear hst HK hde hdb HDe HR hbk
          go_wp2_with (go_at_call 27; refine h27.mono ?_; rintro e wx ⟨rfl, hwx⟩; have hwx := hwx.symm; subst hwx)
          go_round
          case rel => exact ⟨k + 1, by omega, by go_num, HN⟩
          case measure => simp [intOf]; omega
      · have HN : Hid (k = R) := hidE (by rw [← HK.out, List.drop_of_length_le (by omega)]; rfl)
        clear HK
        go_wp2
        go_ret
        exact ⟨ret_int (by rw [HN.out]), rfl⟩
end Go.Proofs.Qxb6001230aMods
