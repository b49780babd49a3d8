import Derived.Test.Qxb6000713aModsRows
import Derived.WalkKit
import Derived.WalkSpells
import Derived.WalkLawsBesides
namespace Go.Proofs.Qxb6000713aMods
open Go.RowKit

/-- a blank byte -/
def blB (c : Int) : Bool := c == 32 || c == 9

set_option maxHeartbeats 400000 in
theorem blank18 (c : Int) (w : World) :
    Calls Trym.prog 18 #[.int .u8 c] w fun e w' => e = .returned (.bool (blB c)) ∧ w' = w := by
  unfold blB
  by_cases h : c = 32
  · subst h
    go_enter Trym.func18, Trym.ntmps18
    go_wp2
    go_ret
    exact ⟨rfl, rfl⟩
  · have h' : (c == 32) = false := by simpa using h
    rw [h']
    go_enter Trym.func18, Trym.ntmps18
    go_wp2
    go_ret
    exact ⟨rfl, rfl⟩

set_option maxHeartbeats 400000 in
theorem blank50 (c : Int) (w : World) :
    Calls Trym.prog 50 #[.int .u8 c] w fun e w' => e = .returned (.bool (blB c)) ∧ w' = w := by
  unfold blB
  by_cases h : c = 32
  · subst h
    go_enter Trym.func50, Trym.ntmps50
    go_wp2
    go_ret
    exact ⟨rfl, rfl⟩
  · have h' : (c == 32) = false := by simpa using h
    rw [h']
    go_enter Trym.func50, Trym.ntmps50
    go_wp2
    go_ret
    exact ⟨rfl, rfl⟩

set_option maxHeartbeats 400000 in
theorem bytes25 (f i : Int) (a : Option Addr) (n c : Nat) (w : World) (hn : n ≤ maxLen) :
    Calls Trym.prog 25 #[.int .i64 f, .slice a n c, .int .i64 i] w fun e w' => e = .returned (.bool (decide (n ≤ 1048576))) ∧ w' = w := by
  unfold maxLen at hn
  by_cases h : n ≤ 1048576
  · rw [decide_eq_true h]
    go_enter Trym.func25, Trym.ntmps25
    go_wp2
    go_ret
    exact ⟨rfl, rfl⟩
  · rw [decide_eq_false h]
    go_enter Trym.func25, Trym.ntmps25
    go_wp2
    go_ret
    exact ⟨rfl, rfl⟩
end Go.Proofs.Qxb6000713aMods
