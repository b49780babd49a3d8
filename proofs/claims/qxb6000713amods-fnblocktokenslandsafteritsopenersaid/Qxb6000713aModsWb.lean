import Derived.Test.Qxb6000713aModsWa
namespace Go.Proofs.Qxb6000713aMods
open Go.RowKit

theorem ret_int {k : IntKind} {a b : Int} (h : a = b) : Ending.returned (.int k a) = .returned (.int k b) := by rw [h]
theorem ret_bool {a b : Bool} (h : a = b) : Ending.returned (.bool a) = .returned (.bool b) := by rw [h]

/-- the byte c is in the string s -/
def oneB (s : ByteArray) (c : Int) : Bool := s.data.toList.any fun b => (b.toNat : Int) == c

theorem oneB_at (s : ByteArray) (c : Int) (k : Nat) (h : k < s.size) (e : (s[k].toNat : Int) = c) : oneB s c = true := by
  unfold oneB
  rw [List.any_eq_true]
  exact ⟨s[k], by simp [ByteArray.getElem_eq_getElem_data], by simpa using e⟩

theorem oneB_no (s : ByteArray) (c : Int) (h : ∀ j, (hj : j < s.size) → (s[j].toNat : Int) ≠ c) : oneB s c = false := by
  unfold oneB
  rw [List.any_eq_false]
  intro b hb
  obtain ⟨j, hj, rfl⟩ := List.mem_iff_getElem.1 hb
  have := h j (by simpa using hj)
  simpa [ByteArray.getElem_eq_getElem_data] using this

set_option maxHeartbeats 400000 in
theorem one24 (s : ByteArray) (c : Int) (w : World) (hs : s.size ≤ maxLen) :
    Calls Trym.prog 24 #[.string s, .int .u8 c] w fun e w' => e = .returned (.bool (oneB s c)) ∧ w' = w := by
  unfold maxLen at hs
  go_enter Trym.func24, Trym.ntmps24
  go_wp2
  go_loop [5] (fun i => ∃ k : Nat, k ≤ s.size ∧ i = .int .i64 k ∧ ∀ j, (hj : j < s.size) → j < k → (s[j].toNat : Int) ≠ c) (fun i => s.size - (intOf i).toNat)
  case atStart => exact ⟨0, Nat.zero_le _, rfl, fun j _ h => by omega⟩
  case round =>
    obtain ⟨k, hk, rfl, hno⟩ := hrel
    by_cases hlt : k < s.size
    · by_cases he : (s[k].toNat : Int) = c
      · have h1 := oneB_at s c k hlt he
        have H1 : Hid (oneB s c = true) := h1
        clear h1
        go_wp2
        go_ret
        exact ⟨ret_bool H1.out.symm, rfl⟩
      · have he' : ((s[k].toNat : Int) == c) = false := by simpa using he
        go_wp2
        go_round
        case rel => exact ⟨k + 1, by omega, by go_num, fun j hj hjk => by by_cases e : j = k; (subst e; exact he); exact hno j hj (by omega)⟩
        case measure => simp [intOf]; omega
    · have H1 : Hid (oneB s c = false) := oneB_no s c (fun j hj => hno j hj (by omega))
      go_wp2
      go_ret
      exact ⟨ret_bool H1.out.symm, rfl⟩

/-- a line of bytes: its cells -/
def Ln (w : World) (a : Option Addr) (zs : List Int) : Prop :=
  zs = [] ∨ ∃ b off, a = some ⟨b, off, none⟩ ∧ ∀ k, k < zs.length → w.cell? ⟨b, off + k, none⟩ = some (.int .u8 (zs.getD k 0))

/-- where the blanks from i on end -/
def sk (zs : List Int) (i : Nat) : Nat := i + ((zs.drop i).takeWhile blB).length

theorem sk_end (zs : List Int) (i : Nat) (h : zs.length ≤ i) : sk zs i = i := by
  unfold sk; rw [List.drop_of_length_le h]; rfl
theorem sk_yes (zs : List Int) (i : Nat) (h : i < zs.length) (hb : blB (zs.getD i 0) = true) : sk zs i = sk zs (i + 1) := by
  unfold sk
  rw [List.drop_eq_getElem_cons h, List.takeWhile_cons]
  rw [List.getD_eq_getElem?_getD, List.getElem?_eq_getElem h] at hb
  simp at hb
  simp [hb]; omega
theorem sk_no (zs : List Int) (i : Nat) (h : i < zs.length) (hb : blB (zs.getD i 0) = false) : sk zs i = i := by
  unfold sk
  rw [List.drop_eq_getElem_cons h, List.takeWhile_cons]
  rw [List.getD_eq_getElem?_getD, List.getElem?_eq_getElem h] at hb
  simp at hb
  simp [hb]

set_option maxHeartbeats 400000 in
theorem skip41 (a : Option Addr) (zs : List Int) (cap i : Nat) (w : World) (hl : Ln w a zs) (hz : zs.length ≤ 1048576) (hi : i ≤ zs.length) :
    Calls Trym.prog 41 #[.slice a zs.length cap, .int .i64 i] w fun e w' => e = .returned (.int .i64 (sk zs i)) ∧ w' = w := by
  go_enter Trym.func41, Trym.ntmps41
  go_wp2
  go_loop [1] (fun t => ∃ k : Nat, i ≤ k ∧ k ≤ zs.length ∧ t = .int .i64 k ∧ Hid (sk zs k = sk zs i)) (fun t => zs.length - (intOf t).toNat)
  case atStart => exact ⟨i, Nat.le_refl _, hi, rfl, rfl⟩
  case round =>
    obtain ⟨k, hik, hk, rfl, hsk⟩ := hrel
    by_cases hlt : k < zs.length
    · rcases hl with rfl | ⟨b, off, rfl, hc⟩
      · simp at hlt
      · have hck := hc k hlt
        clear hc
        obtain ⟨c, HC⟩ : ∃ c, Hid (zs.getD k 0 = c) := ⟨_, rfl⟩
        rw [HC.out] at hck
        by_cases hb : blB c = true
        · have H1 : Hid (sk zs (k + 1) = sk zs i) := (sk_yes zs k hlt (by rw [HC.out]; exact hb)).symm.trans hsk.out
          go_wp2_with (go_at_call 50; refine (blank50 _ _).mono ?_; rintro e w' ⟨rfl, rfl⟩)
          go_round
          case rel => exact ⟨k + 1, by omega, by omega, by go_num, H1⟩
          case measure => simp [intOf]; omega
        · have hb' : blB c = false := by simpa using hb
          have H1 : Hid (sk zs i = k) := hsk.out.symm.trans (sk_no zs k hlt (by rw [HC.out]; exact hb'))
          clear hb
          go_wp2_with (go_at_call 50; refine (blank50 _ _).mono ?_; rintro e w' ⟨rfl, rfl⟩)
          go_ret
          exact ⟨ret_int (by rw [H1.out]), rfl⟩
    · have H1 : Hid (sk zs i = k) := hsk.out.symm.trans (sk_end zs k (by omega))
      go_wp2
      go_ret
      exact ⟨ret_int (by rw [H1.out]), rfl⟩
end Go.Proofs.Qxb6000713aMods
