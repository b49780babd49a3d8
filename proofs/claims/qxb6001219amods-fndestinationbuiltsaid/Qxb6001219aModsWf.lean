import Derived.Test.Qxb6001219aModsWe
namespace Go.Proofs.Qxb6001219aMods
open Go.RowKit

def BareP (s : ByteArray) (w : World) (e : Ending) (w' : World) : Prop :=
  ∃ b : Bool, e = .returned (.bool b) ∧ w' = w ∧ (b = true → okX (bl s) ∧ bl s ≠ [] ∧ (bl s).headD 0 ≠ 60)
def AngP (s : ByteArray) (w : World) (e : Ending) (w' : World) : Prop :=
  ∃ b : Bool, e = .returned (.bool b) ∧ w' = w ∧ (b = true → okY (bl s))

theorem mem_at {L : List Int} {P : Int → Prop} (h : ∀ j, j < L.length → P (L.getD j 0)) : ∀ c ∈ L, P c := by
  intro c hc
  obtain ⟨j, hj, rfl⟩ := List.mem_iff_getElem.1 hc
  have := h j hj
  rwa [List.getD_eq_getElem?_getD, List.getElem?_eq_getElem hj] at this

set_option maxHeartbeats 400000 in
theorem bare19 (s : ByteArray) (w : World) (hs : s.size ≤ 4194304) : Calls Trym.prog 19 #[.string s] w (BareP s w) := by
  have hL := bl_length s
  by_cases h0 : s.size = 0
  · go_enter Trym.func19, Trym.ntmps19
    go_wp2
    go_ret
    exact ⟨false, rfl, rfl, fun h => by cases h⟩
  have hpos : 0 < s.size := by omega
  have e0 : ((s.size : Int) == 0) = false := by rw [beq_eq_false_iff_ne]; omega
  have hc0 := bl_at s 0 hpos
  obtain ⟨c0, HC0⟩ : ∃ c, Hid ((bl s).getD 0 0 = c) := ⟨_, rfl⟩
  rw [HC0.out] at hc0
  by_cases h60 : c0 = 60
  · subst h60
    clear h0
    go_enter Trym.func19, Trym.ntmps19
    go_wp2
    go_ret
    exact ⟨false, rfl, rfl, fun h => by cases h⟩
  have n60 : (c0 == 60) = false := by simpa using h60
  have HH : Hid ((bl s).headD 0 ≠ 60) := hidE (by
    have e := headD_drop (bl s) 0
    rw [List.drop_zero] at e
    rw [e, HC0.out]; exact h60)
  have HE : Hid (bl s ≠ []) := hidE (by intro e; rw [e] at hL; simp at hL; omega)
  clear h0 h60
  go_enter Trym.func19, Trym.ntmps19
  go_wp2
  go_loop [3] (fun t => ∃ k : Nat, k ≤ s.size ∧ t = .int .i64 k ∧ Hid (∀ j, j < k → 32 < (bl s).getD j 0 ∧ (bl s).getD j 0 ≠ 127 ∧ (bl s).getD j 0 ≠ 40 ∧ (bl s).getD j 0 ≠ 41 ∧ (bl s).getD j 0 ≠ 92)) (fun t => s.size - (intOf t).toNat)
  case atStart => exact ⟨0, Nat.zero_le _, rfl, fun j h => by omega⟩
  case round =>
    obtain ⟨k, hk, rfl, HK⟩ := hrel
    by_cases hlt : k < s.size
    · have hck := bl_at s k hlt
      obtain ⟨c, HC⟩ : ∃ c, Hid ((bl s).getD k 0 = c) := ⟨_, rfl⟩
      rw [HC.out] at hck
      by_cases hok : 32 < c ∧ c ≠ 127 ∧ c ≠ 40 ∧ c ≠ 41 ∧ c ≠ 92
      · have HK1 : Hid (∀ j, j < k + 1 → 32 < (bl s).getD j 0 ∧ (bl s).getD j 0 ≠ 127 ∧ (bl s).getD j 0 ≠ 40 ∧ (bl s).getD j 0 ≠ 41 ∧ (bl s).getD j 0 ≠ 92) := fun j hj => by
          by_cases e : j = k
          · rw [e, HC.out]; exact hok
          · exact HK.out j (by omega)
        obtain ⟨q1, q2, q3, q4, q5⟩ := hok
        have n1 : (c == 127) = false := by simpa using q2
        have n2 : (c == 40) = false := by simpa using q3
        have n3 : (c == 41) = false := by simpa using q4
        have n4 : (c == 92) = false := by simpa using q5
        clear q2 q3 q4 q5 HK
        go_wp2
        go_round
        case rel => exact ⟨k + 1, by omega, by go_num, HK1⟩
        case measure => simp [intOf]; omega
      · rcases (show c ≤ 32 ∨ c = 127 ∨ c = 40 ∨ c = 41 ∨ c = 92 by omega) with h | rfl | rfl | rfl | rfl
        all_goals
          clear hok HK
          go_wp2
          go_ret
          exact ⟨false, rfl, rfl, fun h => by cases h⟩
    · have HF : Hid (okX (bl s)) := mem_at (fun j hj => HK.out j (by omega))
      clear HK
      go_wp2
      go_ret
      exact ⟨true, rfl, rfl, fun _ => ⟨HF.out, HE.out, HH.out⟩⟩

set_option maxHeartbeats 400000 in
theorem ang20 (s : ByteArray) (w : World) (hs : s.size ≤ 4194304) : Calls Trym.prog 20 #[.string s] w (AngP s w) := by
  have hL := bl_length s
  go_enter Trym.func20, Trym.ntmps20
  go_wp2
  go_loop [3] (fun t => ∃ k : Nat, k ≤ s.size ∧ t = .int .i64 k ∧ Hid (∀ j, j < k → (bl s).getD j 0 ≠ 60 ∧ (bl s).getD j 0 ≠ 62 ∧ (bl s).getD j 0 ≠ 10 ∧ (bl s).getD j 0 ≠ 92)) (fun t => s.size - (intOf t).toNat)
  case atStart => exact ⟨0, Nat.zero_le _, rfl, fun j h => by omega⟩
  case round =>
    obtain ⟨k, hk, rfl, HK⟩ := hrel
    by_cases hlt : k < s.size
    · have hck := bl_at s k hlt
      obtain ⟨c, HC⟩ : ∃ c, Hid ((bl s).getD k 0 = c) := ⟨_, rfl⟩
      rw [HC.out] at hck
      by_cases hok : c ≠ 60 ∧ c ≠ 62 ∧ c ≠ 10 ∧ c ≠ 92
      · have HK1 : Hid (∀ j, j < k + 1 → (bl s).getD j 0 ≠ 60 ∧ (bl s).getD j 0 ≠ 62 ∧ (bl s).getD j 0 ≠ 10 ∧ (bl s).getD j 0 ≠ 92) := fun j hj => by
          by_cases e : j = k
          · rw [e, HC.out]; exact hok
          · exact HK.out j (by omega)
        obtain ⟨q2, q3, q4, q5⟩ := hok
        have n1 : (c == 60) = false := by simpa using q2
        have n2 : (c == 62) = false := by simpa using q3
        have n3 : (c == 10) = false := by simpa using q4
        have n4 : (c == 92) = false := by simpa using q5
        clear q2 q3 q4 q5 HK
        go_wp2
        go_round
        case rel => exact ⟨k + 1, by omega, by go_num, HK1⟩
        case measure => simp [intOf]; omega
      · rcases (show c = 60 ∨ c = 62 ∨ c = 10 ∨ c = 92 by omega) with rfl | rfl | rfl | rfl
        all_goals
          clear hok HK
          go_wp2
          go_ret
          exact ⟨false, rfl, rfl, fun h => by cases h⟩
    · have HF : Hid (okY (bl s)) := mem_at (fun j hj => HK.out j (by omega))
      clear HK
      go_wp2
      go_ret
      exact ⟨true, rfl, rfl, fun _ => HF.out⟩

set_option maxHeartbeats 400000 in
theorem bytes18 (x y t : ByteArray) (w : World) (hx : x.size ≤ maxLen) (hy : y.size ≤ maxLen) (ht : t.size ≤ maxLen) : Calls Trym.prog 18 #[.string x, .string y, .string t] w (SomeBool w) := by
  unfold maxLen at hx hy ht
  go_enter Trym.func18, Trym.ntmps18
  go_wp2
  all_goals go_ret
  all_goals exact ⟨_, rfl, rfl⟩
end Go.Proofs.Qxb6001219aMods
