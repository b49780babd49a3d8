import Derived.Test.Qxb6001219aModsRows
import Derived.WalkKit
import Derived.WalkSpells
import Derived.WalkLawsBesides
import Derived.Laws.StandIn
import Derived.Lib.Bytealg
namespace Go.Proofs.Qxb6001219aMods
open Go.RowKit

theorem ret_int {k : IntKind} {a b : Int} (h : a = b) : Ending.returned (.int k a) = .returned (.int k b) := by rw [h]
theorem ret_bool {a b : Bool} (h : a = b) : Ending.returned (.bool a) = .returned (.bool b) := by rw [h]

/-- a string's bytes, as numbers -/
def bl (s : ByteArray) : List Int := s.data.toList.map fun b => (b.toNat : Int)
theorem bl_length (s : ByteArray) : (bl s).length = s.size := by simp [bl]
theorem bl_at (s : ByteArray) (k : Nat) (h : k < s.size) : (s[k].toNat : Int) = (bl s).getD k 0 := by
  have h' : k < (bl s).length := by rw [bl_length]; exact h
  rw [List.getD_eq_getElem?_getD, List.getElem?_eq_getElem h']
  simp [bl, ByteArray.getElem_eq_getElem_data]
theorem bl_bd (s : ByteArray) (k : Nat) : 0 ≤ (bl s).getD k 0 ∧ (bl s).getD k 0 ≤ 255 := by
  by_cases h : k < s.size
  · rw [← bl_at s k h]
    have := s[k].toNat_lt
    omega
  · rw [List.getD_eq_getElem?_getD, List.getElem?_eq_none (by rw [bl_length]; omega)]
    simp

/-- ASCII punctuation -/
def pun (c : Int) : Bool := decide ((33 ≤ c ∧ c ≤ 47) ∨ (58 ≤ c ∧ c ≤ 64) ∨ (91 ≤ c ∧ c ≤ 96) ∨ (123 ≤ c ∧ c ≤ 126))

def punS : ByteArray := ⟨#[33, 34, 35, 36, 37, 38, 39, 40, 41, 42, 43, 44, 45, 46, 47, 58, 59, 60, 61, 62, 63, 64, 91, 92, 93, 94, 95, 96, 123, 124, 125, 126]⟩
theorem pun_all : ∀ n : Fin 256, decide (0 ≤ Lib.indexByte punS.data.toList (n.val.toUInt8)) = pun (n.val : Int) := by decide +kernel
theorem pun_eq (c : Int) (h0 : 0 ≤ c) (h1 : c ≤ 255) : decide (0 ≤ Lib.indexByte punS.data.toList c.toNat.toUInt8) = pun c := by
  obtain ⟨n, rfl⟩ := Int.eq_ofNat_of_zero_le h0
  have := pun_all ⟨n, by omega⟩
  simpa using this

theorem run28 (s : ByteArray) (c : Int) (w : World) :
    (callFunc 28 #[.string s, .int .u8 c]).run Trym.prog w = .ok (.value (.int .i64 (Lib.indexByte s.data.toList c.toNat.toUInt8))) w := by
  rw [run_callFunc_indexByte Trym.func28 (by kernel_rfl) (by kernel_rfl) (by kernel_rfl) (by kernel_rfl), Lib.run_indexByteString]
  rfl

set_option maxHeartbeats 400000 in
theorem index26 (s : ByteArray) (c : Int) (w : World) :
    Calls Trym.prog 26 #[.string s, .int .u8 c] w fun e w' => e = .returned (.int .i64 (Lib.indexByte s.data.toList c.toNat.toUInt8)) ∧ w' = w := by
  have h28 := run28
  go_enter Trym.func26, Trym.ntmps26
  go_wp2
  go_ret
  exact ⟨rfl, rfl⟩

set_option maxHeartbeats 400000 in
theorem punct24 (c : Int) (w : World) (h0 : 0 ≤ c) (h1 : c ≤ 255) :
    Calls Trym.prog 24 #[.int .u8 c] w fun e w' => e = .returned (.bool (pun c)) ∧ w' = w := by
  have h := index26 punS c w
  have HP : Hid (decide (0 ≤ Lib.indexByte punS.data.toList c.toNat.toUInt8) = pun c) := pun_eq c h0 h1
  obtain ⟨r, HR⟩ : ∃ r, Hid (Lib.indexByte punS.data.toList c.toNat.toUInt8 = r) := ⟨_, rfl⟩
  rw [HR.out] at h
  have HP2 : Hid (decide (0 ≤ r) = pun c) := by rw [← HR.out]; exact HP.out
  clear HP HR
  go_enter Trym.func24, Trym.ntmps24
  go_wp2_with (go_at_call 26; refine h.mono ?_; rintro e w' ⟨rfl, rfl⟩)
  go_ret
  exact ⟨ret_bool HP2.out, rfl⟩

theorem pre_eq (s : ByteArray) (p : UInt8) (h : 1 ≤ s.size) : ((s.extract 0 1).toList == [p]) = decide (0 < s.size ∧ (bl s).getD 0 0 = p.toNat) := by
  rw [Lib.extract_toList]
  have e : (bl s).getD 0 0 = (s[0].toNat : Int) := (bl_at s 0 h).symm
  rw [e]
  have hl : 0 < s.data.toList.length := by simp; omega
  have e2 : s.data.toList.drop 0 = s[0] :: s.data.toList.drop 1 := by
    rw [List.drop_eq_getElem_cons hl]
    rfl
  rw [e2]
  have h' : 0 < s.size := h
  rw [Bool.eq_iff_iff]
  simp [h', ← UInt8.toNat_inj]
  omega

set_option maxHeartbeats 400000 in
theorem prefix23 (s : ByteArray) (p : UInt8) (w : World) (hs : s.size ≤ maxLen) :
    Calls Trym.prog 23 #[.string s, .string ⟨#[p]⟩] w fun e w' => e = .returned (.bool (decide (0 < s.size ∧ (bl s).getD 0 0 = p.toNat))) ∧ w' = w := by
  unfold maxLen at hs
  by_cases h : 1 ≤ s.size
  · go_enter Trym.func23, Trym.ntmps23
    go_wp2
    go_ret
    exact ⟨ret_bool (pre_eq s p h), rfl⟩
  · have hd : decide (0 < s.size ∧ (bl s).getD 0 0 = p.toNat) = false := decide_eq_false (by omega)
    rw [hd]
    go_enter Trym.func23, Trym.ntmps23
    go_wp2
    go_ret
    exact ⟨rfl, rfl⟩
end Go.Proofs.Qxb6001219aMods
