import Derived.Test.Qxb6000713aModsWd
import Derived.RegionTactic
import Derived.BigRegion
namespace Go.Proofs.Qxb6000713aMods
open Go.RowKit

/-- the scanner as a value -/
abbrev scV (st : Int) (ind : Value) (fd si kc : Int) (ka : Bool) : Value := .agg #[.int .i64 st, ind, .int .i64 fd, .int .i64 si, .int .i64 kc, .bool ka]

set_option maxHeartbeats 400000 in
theorem scan16 (st : Int) (ao : Option Addr) (n c : Nat) (fd si kc : Int) (ka : Bool) (w : World) :
    Calls Trym.prog 16 #[.int .i64 st, .slice ao n c, .int .i64 fd, .int .i64 si, .int .i64 kc, .bool ka] w fun e w' =>
      e = .returned (scV st (.slice ao n c) fd si kc ka) ∧ Below w.heap.size w w' := by
  go_enter Trym.func16, Trym.ntmps16
  go_wp2
  refine bodyPost_ret (v := scV st (.slice ao n c) fd si kc ka) (by simp [results, Trym.results16, go_sem]) rfl ⟨rfl, ?_⟩
  exact (Below.refl _ _).alloc (Nat.le_refl _) _

set_option maxHeartbeats 400000 in
theorem in34 (st : Int) (ao : Option Addr) (n c : Nat) (fd si kc : Int) (ka : Bool) (w : World) :
    Calls Trym.prog 34 #[scV st (.slice ao n c) fd si kc ka] w fun e w' =>
      ∃ bs, e = .returned (.pointer (some ⟨bs, 0, none⟩)) ∧ w.heap.size ≤ bs ∧ Sc w' bs st (.slice ao n c) fd si kc ka ∧ Below w.heap.size w w' := by
  go_enter Trym.func34, Trym.ntmps34
  go_wp2
  go_ret
  refine ⟨w.heap.size + 1, rfl, by omega, ?_, ((Below.refl _ _).alloc (Nat.le_refl _) _).alloc (by simp) _⟩
  unfold Sc
  rw [show w.heap.size + 1 = (w.alloc _).heap.size from (World.size_alloc _ _).symm]
  exact heap_alloc_new _ _

set_option maxHeartbeats 1000000 in
theorem out36 (bs : Nat) (st : Int) (ao : Option Addr) (n c : Nat) (fd si kc : Int) (ka : Bool) (w : World) (hs : Sc w bs st (.slice ao n c) fd si kc ka) :
    Calls Trym.prog 36 #[.pointer (some ⟨bs, 0, none⟩)] w fun e w' =>
      e = .returned (scV st (.slice ao n c) fd si kc ka) ∧ Below w.heap.size w w' := by
  have hlt := hs.lt
  have c0 := hs.c0
  have c1 := hs.c1
  have c2 := hs.c2
  have c3 := hs.c3
  have c4 := hs.c4
  have c5 := hs.c5
  go_enter Trym.func36, Trym.ntmps36
  go_wp2
  go_region
  all_goals try go_wp2
  refine bodyPost_ret (v := scV st (.slice ao n c) fd si kc ka) (by simp [results, Trym.results36, go_sem]) rfl ⟨rfl, ?_⟩
  exact ((Below.refl _ _).alloc (Nat.le_refl _) _).drew
end Go.Proofs.Qxb6000713aMods
