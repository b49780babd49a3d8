import Derived.Test.Qxb6001219aModsWc
import Derived.Deep.DeepCutAuto
namespace Go.Proofs.Qxb6001219aMods
open Go.RowKit

theorem bl_extract (s : ByteArray) (n : Nat) : bl (s.extract 0 n) = (bl s).take n := by
  unfold bl
  rw [Lib.extract_data]
  simp

/-- the byte c is in s -/
def hasB (s : ByteArray) (c : Int) : Bool := (bl s).any (· == c)
theorem hasB_at (s : ByteArray) (c : Int) (k : Nat) (h : k < s.size) (e : (bl s).getD k 0 = c) : hasB s c = true := by
  unfold hasB
  rw [List.any_eq_true]
  have h' : k < (bl s).length := by rw [bl_length]; exact h
  refine ⟨(bl s)[k], List.getElem_mem h', ?_⟩
  rw [List.getD_eq_getElem?_getD, List.getElem?_eq_getElem h'] at e
  simpa using e
theorem hasB_no (s : ByteArray) (c : Int) (h : ∀ j, j < s.size → (bl s).getD j 0 ≠ c) : hasB s c = false := by
  unfold hasB
  rw [List.any_eq_false]
  intro b hb
  obtain ⟨j, hj, rfl⟩ := List.mem_iff_getElem.1 hb
  have := h j (by rw [← bl_length]; exact hj)
  rw [List.getD_eq_getElem?_getD, List.getElem?_eq_getElem hj] at this
  simpa using this

set_option maxHeartbeats 400000 in
theorem has16 (s : ByteArray) (c : Int) (w : World) (hs : s.size ≤ 4194304) :
    Calls Trym.prog 16 #[.string s, .int .u8 c] w fun e w' => e = .returned (.bool (hasB s c)) ∧ w' = w := by
  go_enter Trym.func16, Trym.ntmps16
  go_wp2
  go_loop [5] (fun i => ∃ k : Nat, k ≤ s.size ∧ i = .int .i64 k ∧ Hid (∀ j, j < k → (bl s).getD j 0 ≠ c)) (fun i => s.size - (intOf i).toNat)
  case atStart => exact ⟨0, Nat.zero_le _, rfl, fun j h => by omega⟩
  case round =>
    obtain ⟨k, hk, rfl, hno⟩ := hrel
    by_cases hlt : k < s.size
    · have hck := bl_at s k hlt
      obtain ⟨d, HD⟩ : ∃ d, Hid ((bl s).getD k 0 = d) := ⟨_, rfl⟩
      rw [HD.out] at hck
      by_cases he : d = c
      · have H1 : Hid (hasB s c = true) := hasB_at s c k hlt (HD.out.trans he)
        subst he
        go_wp2
        go_ret
        exact ⟨ret_bool H1.out.symm, rfl⟩
      · have he' : (d == c) = false := by simpa using he
        have HK : Hid (∀ j, j < k + 1 → (bl s).getD j 0 ≠ c) := fun j hj => by
          by_cases e : j = k
          · rw [e, HD.out]; exact he
          · exact hno.out j (by omega)
        clear hno
        go_wp2
        go_round
        case rel => exact ⟨k + 1, by omega, by go_num, HK⟩
        case measure => simp [intOf]; omega
    · have H1 : Hid (hasB s c = false) := hasB_no s c (fun j hj => hno.out j (by omega))
      go_wp2
      go_ret
      exact ⟨ret_bool H1.out.symm, rfl⟩

/-- some Bool came back, nothing turned (a name of its own) -/
def SomeBool (w : World) (e : Ending) (w' : World) : Prop := ∃ r : Bool, e = .returned (.bool r) ∧ w' = w

set_option maxHeartbeats 400000 in
theorem bytes14 (s : ByteArray) (w : World) (hs : s.size ≤ maxLen) : Calls Trym.prog 14 #[.string s] w (SomeBool w) := by
  unfold maxLen at hs
  go_enter Trym.func14, Trym.ntmps14
  go_wp2
  all_goals go_ret
  all_goals exact ⟨_, rfl, rfl⟩

set_option maxHeartbeats 1000000 in
set_option maxRecDepth 100000 in
theorem main6 (s : ByteArray) (w : World) (hs : s.size ≤ maxLen) :
    Calls Trym.prog 6 #[.string s] w fun e w' => e = .returned (.bool true) ∧ w' = w := by
  have h14 := bytes14 s w hs
  unfold maxLen at hs
  by_cases hz : ¬ s.size ≤ 1048576
  · go_enter Trym.func6, Trym.ntmps6
    go_upto_region 5 with (go_at_call 14; refine h14.mono ?_; rintro e wx ⟨r, rfl, hwx⟩; have hwx := hwx.symm; subst hwx)
    all_goals first | (go_ret; exact ⟨rfl, rfl⟩) | (exfalso; omega)
  have hz' : s.size ≤ 1048576 := by omega
  clear hz
  have hL := bl_length s
  have h15 := zzdest15 s w (by omega)
  have hsh := dest_shape (bl s)
  obtain ⟨r, HR⟩ : ∃ r, Hid (dest (bl s) = r) := ⟨_, rfl⟩
  rw [HR.out] at h15 hsh
  clear HR
  go_enter Trym.func6, Trym.ntmps6
  go_upto_region 6 with (first
    | (go_at_call 14; refine h14.mono ?_; rintro e wx ⟨rb, rfl, hwx⟩; have hwx := hwx.symm; subst hwx)
    | (go_at_call 15; refine h15.mono ?_; rintro e wx ⟨rfl, hwx⟩; have hwx := hwx.symm; subst hwx))
  · go_ret
    exact ⟨rfl, rfl⟩
  rcases hsh with rfl | ⟨n, rfl, hn1, hn2, hsh⟩
  · go_wp2
    go_ret
    exact ⟨rfl, rfl⟩
  rw [hL] at hn2
  have h0 : 0 < s.size := by omega
  have hc0 := bl_at s 0 h0
  have nm1 : ((n : Int) == -1) = false := by simp
  rcases hsh with ⟨h60, h2, h62, hno⟩ | ⟨h60, hok, hend⟩
  · rw [h60] at hc0
    obtain ⟨m, rfl⟩ : ∃ m, n = m + 1 := ⟨n - 1, by omega⟩
    have hcm := bl_at s m (by omega)
    rw [show m + 1 - 1 = m from rfl] at h62
    rw [h62] at hcm
    have HB : Hid (hasB (s.extract 0 (m + 1)) 10 = false) := hasB_no _ _ (fun j hj => by
      rw [bl_extract]
      have hj' : j < m + 1 := by
        have := bl_length (s.extract 0 (m + 1))
        rw [bl_extract, List.length_take] at this
        omega
      rw [List.getD_eq_getElem?_getD, List.getElem?_take_of_lt hj', ← List.getD_eq_getElem?_getD]
      exact hno j hj')
    have h16 := has16 (s.extract 0 (m + 1)) 10 w (by simp; omega)
    rw [HB.out] at h16
    clear hno h62 h60 HB
    go_wp2_with (go_at_call 16; refine h16.mono ?_; rintro e wx ⟨rfl, hwx⟩; have hwx := hwx.symm; subst hwx)
    go_ret
    exact ⟨rfl, rfl⟩
  · obtain ⟨c0, HC0⟩ : ∃ c, Hid ((bl s).getD 0 0 = c) := ⟨_, rfl⟩
    rw [HC0.out] at hc0 h60
    have n60 : (c0 == 60) = false := by simpa using h60
    have HOK : Hid (∀ j, j < n → okD ((bl s).getD j 0)) := hok
    clear hok h60
    go_wp2
    go_loop [4] (fun t => ∃ k : Nat, k ≤ n ∧ t = .int .i64 k) (fun t => n - (intOf t).toNat)
    case atStart => exact ⟨0, Nat.zero_le _, rfl⟩
    case round =>
      obtain ⟨k, hk, rfl⟩ := hrel
      by_cases hlt : k < n
      · have hks : k < s.size := by omega
        have hck := bl_at s k hks
        have hokk := HOK.out k hlt
        obtain ⟨d, HD⟩ : ∃ d, Hid ((bl s).getD k 0 = d) := ⟨_, rfl⟩
        rw [HD.out] at hck hokk
        obtain ⟨ho1, ho2⟩ := hokk
        have n127 : (d == 127) = false := by simpa using ho2
        clear ho2 hend
        go_wp2
        go_round
        case rel => exact ⟨k + 1, by omega, by go_num⟩
        case measure => simp [intOf]; omega
      · have hkn : k = n := by omega
        subst hkn
        clear HOK
        by_cases hns : k = s.size
        · have e1 : ((k : Int) == (s.size : Int)) = true := by simp; omega
          clear hend hns
          go_wp2
          go_ret
          exact ⟨rfl, rfl⟩
        · have e1 : ((k : Int) == (s.size : Int)) = false := by simp; omega
          have hks : k < s.size := by omega
          have hck := bl_at s k hks
          obtain ⟨d, HD⟩ : ∃ d, Hid ((bl s).getD k 0 = d) := ⟨_, rfl⟩
          rw [HD.out] at hck hend
          rcases hend with hend | hend | rfl | rfl
          · exfalso; omega
          · clear hns
            go_wp2
            go_ret
            exact ⟨rfl, rfl⟩
          · clear hns
            go_wp2
            go_ret
            exact ⟨ret_bool (by simp), rfl⟩
          · clear hns
            go_wp2
            go_ret
            exact ⟨ret_bool (by simp), rfl⟩
end Go.Proofs.Qxb6001219aMods
