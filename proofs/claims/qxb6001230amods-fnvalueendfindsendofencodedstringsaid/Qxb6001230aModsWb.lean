import Derived.Test.Qxb6001230aModsWa
namespace Go.Proofs.Qxb6001230aMods
open Go.RowKit

/-! the plain side -/
def seF (n : Nat) : Bool → List Int → Nat → Nat
  | _, [], _ => n
  | true, _ :: r, i => seF n false r (i + 1)
  | false, c :: r, i => if c = 92 then seF n true r (i + 1) else if c = 34 then i + 1 else seF n false r (i + 1)
def opB (c : Int) : Bool := decide (c = 91 ∨ c = 123)
def clB (c : Int) : Bool := decide (c = 93 ∨ c = 125)
/-- the bracket loop: mode 0 outside of strings, 1 in a string, 2 behind a backslash in it -/
def vb (n : Nat) : Nat → List Int → Int → Nat → Int
  | _, [], _, _ => n
  | 0, c :: r, d, i => if c = 34 then vb n 1 r d (i + 1) else if opB c = true then vb n 0 r (d + 1) (i + 1) else if clB c = true then (if d - 1 = 0 then (i : Int) + 1 else vb n 0 r (d - 1) (i + 1)) else vb n 0 r d (i + 1)
  | 1, c :: r, d, i => if c = 92 then vb n 2 r d (i + 1) else if c = 34 then vb n 0 r d (i + 1) else vb n 1 r d (i + 1)
  | _ + 2, _ :: r, d, i => vb n 1 r d (i + 1)
def delB (c : Int) : Bool := decide (c = 44 ∨ c = 58 ∨ c = 93 ∨ c = 125 ∨ c = 32 ∨ c = 9 ∨ c = 13 ∨ c = 10)
def beF : List Int → Nat → Nat
  | [], i => i
  | c :: r, i => if delB c = true then i else beF r (i + 1)
def ve (L : List Int) (i : Nat) : Int :=
  if L.length ≤ i then i else if L.getD i 0 = 34 then seF L.length false (L.drop (i + 1)) (i + 1) else if opB (L.getD i 0) = true then vb L.length 0 (L.drop i) 0 i else beF (L.drop i) i

theorem drop_cons (L : List Int) (k : Nat) (h : k < L.length) : L.drop k = L.getD k 0 :: L.drop (k + 1) := by
  rw [List.drop_eq_getElem_cons h, List.getD_eq_getElem?_getD, List.getElem?_eq_getElem h]
  rfl

/-- reading a string in the bracket loop is stringEnd -/
theorem vb_string (n : Nat) (d : Int) : ∀ (R : List Int) (k : Nat) (b : Bool), k + R.length = n → ∃ j, seF n b R k = j ∧ k ≤ j ∧ j ≤ n ∧ vb n (if b = true then 2 else 1) R d k = vb n 0 (R.drop (j - k)) d j ∧ (b = false → R ≠ [] → k < j) := by
  intro R
  induction R with
  | nil =>
    intro k b h
    refine ⟨n, by cases b <;> rfl, by simp at h; omega, Nat.le_refl _, ?_, fun _ h => absurd rfl h⟩
    cases b <;> simp [vb]
  | cons c R ih =>
    intro k b h
    have h' : k + 1 + R.length = n := by simp at h; omega
    cases b with
    | true =>
      obtain ⟨j, g1, g2, g3, g4, _⟩ := ih (k + 1) false h'
      refine ⟨j, by rw [seF]; exact g1, by omega, g3, ?_, fun e => by cases e⟩
      rw [if_pos rfl, vb]
      rw [if_neg (by decide)] at g4
      rw [g4, show j - k = (j - (k + 1)) + 1 by omega, List.drop_succ_cons]
    | false =>
      rw [if_neg (by decide), vb, seF]
      by_cases h92 : c = 92
      · obtain ⟨j, g1, g2, g3, g4, _⟩ := ih (k + 1) true h'
        refine ⟨j, by rw [if_pos h92]; exact g1, by omega, g3, ?_, fun _ _ => by omega⟩
        rw [if_pos rfl] at g4
        rw [if_pos h92, g4, show j - k = (j - (k + 1)) + 1 by omega, List.drop_succ_cons]
      · rw [if_neg h92, if_neg h92]
        by_cases h34 : c = 34
        · refine ⟨k + 1, by rw [if_pos h34], by omega, by omega, ?_, fun _ _ => by omega⟩
          rw [if_pos h34, show k + 1 - k = 0 + 1 by omega, List.drop_succ_cons, List.drop_zero]
        · rw [if_neg h34, if_neg h34]
          obtain ⟨j, g1, g2, g3, g4, _⟩ := ih (k + 1) false h'
          refine ⟨j, g1, by omega, g3, ?_, fun _ _ => by omega⟩
          rw [if_neg (by decide)] at g4
          rw [g4, show j - k = (j - (k + 1)) + 1 by omega, List.drop_succ_cons]

set_option maxHeartbeats 1000000 in
theorem str26 (a : Option Addr) (zs : List Int) (cap i : Nat) (w : World) (hl : Ln w a zs) (hz : zs.length ≤ 2097152) (hi : i < zs.length) :
    Calls Trym.prog 26 #[.slice a zs.length cap, .int .i64 i] w fun e w' => e = .returned (.int .i64 (seF zs.length false (zs.drop (i + 1)) (i + 1))) ∧ w' = w := by
  rcases hl with rfl | ⟨b, off, rfl, hc⟩
  · simp at hi
  obtain ⟨R, HRd⟩ : ∃ R, Hid (seF zs.length false (zs.drop (i + 1)) (i + 1) = R) := ⟨_, rfl⟩
  rw [HRd.out]
  have HCc : Hid (∀ k, k < zs.length → w.cell? ⟨b, off + k, none⟩ = some (.int .u8 (zs.getD k 0))) := hc
  clear hc
  go_enter Trym.func26, Trym.ntmps26
  go_wp2
  go_loop [1] (fun t => ∃ k : Nat, i < k ∧ k ≤ zs.length + 1 ∧ t = .int .i64 k ∧ Hid (seF zs.length false (zs.drop k) k = R)) (fun t => zs.length + 1 - (intOf t).toNat)
  case atStart => exact ⟨i + 1, by omega, by omega, by go_num, HRd⟩
  case round =>
    obtain ⟨k, hik, hk, rfl, HK⟩ := hrel
    clear HRd
    by_cases hlt : k < zs.length
    · have hck := HCc.out k hlt
      have hst := HK.out
      rw [drop_cons zs k hlt, seF] at hst
      obtain ⟨c, HC⟩ : ∃ c, Hid (zs.getD k 0 = c) := ⟨_, rfl⟩
      rw [HC.out] at hck hst
      by_cases h92 : c = 92
      · rw [if_pos h92] at hst
        subst h92
        by_cases hk1 : k + 1 < zs.length
        · rw [drop_cons zs (k + 1) hk1, seF] at hst
          have HN : Hid (seF zs.length false (zs.drop (k + 2)) (k + 2) = R) := hst
          clear hst HK
          go_wp2
          go_round
          case rel => exact ⟨k + 2, by omega, by omega, by go_num, HN⟩
          case measure => simp [intOf]; omega
        · have HN : Hid (seF zs.length false (zs.drop (k + 2)) (k + 2) = R) := hidE (by
            rw [List.drop_of_length_le (by omega)] at hst
            rw [List.drop_of_length_le (by omega)]
            exact hst)
          clear hst HK
          go_wp2
          go_round
          case rel => exact ⟨k + 2, by omega, by omega, by go_num, HN⟩
          case measure => simp [intOf]; omega
      rw [if_neg h92] at hst
      have n92 : (c == 92) = false := by simpa using h92
      by_cases h34 : c = 34
      · rw [if_pos h34] at hst
        subst h34
        have HN : Hid (k + 1 = R) := hst
        clear hst HK h92
        go_wp2
        go_ret
        exact ⟨ret_int (by rw [← HN.out]; rfl), rfl⟩
      · rw [if_neg h34] at hst
        have n34 : (c == 34) = false := by simpa using h34
        have HN : Hid (seF zs.length false (zs.drop (k + 1)) (k + 1) = R) := hst
        clear hst HK h92 h34
        go_wp2
        go_round
        case rel => exact ⟨k + 1, by omega, by omega, by go_num, HN⟩
        case measure => simp [intOf]; omega
    · have HN : Hid (zs.length = R) := hidE (by rw [← HK.out, List.drop_of_length_le (by omega)]; rfl)
      clear HK
      go_wp2
      go_ret
      exact ⟨ret_int (by rw [← HN.out]), rfl⟩
end Go.Proofs.Qxb6001230aMods
