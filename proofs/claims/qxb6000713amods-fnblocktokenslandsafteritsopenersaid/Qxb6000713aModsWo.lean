import Derived.Test.Qxb6000713aModsWn
namespace Go.Proofs.Qxb6000713aMods
open Go.RowKit

/-- behind ZZBlockTokensB1 -/
def Post15 (B : Nat) (zs : List Int) (i : Nat) (w : World) (e : Ending) (w' : World) : Prop :=
  ∃ (r st' : Int) (ind' : Value) (fd' si' kc' : Int) (ka' : Bool), e = .returned (.tuple #[scV st' ind' fd' si' kc' ka', .int .i64 r]) ∧ Below B w w' ∧ (∃ a n c, ind' = .slice a n c) ∧ BlockEnd zs i r st' fd'

theorem blk4 {w w1 w2 w3 : World} {B bs : Nat} {o1 : Obj} {cs : Array Value} (hb1 : Below ((w.alloc o1).alloc (.cells cs 28)).heap.size ((w.alloc o1).alloc (.cells cs 28)) w1) (hbs : ((w.alloc o1).alloc (.cells cs 28)).heap.size ≤ bs)
    (ho2 : Bel B bs w1 w2) (hb3 : Below w2.heap.size w2 w3) : w3.heap[w.heap.size + 1]? = some (.cells cs 28 (0, 0)) := by
  have hz := (two_alloc hb1).2
  simp at hbs
  have h1 : w1.heap[w.heap.size + 1]? = some (.cells cs 28 (0, 0)) := by
    rw [hb1.block _ (by simp)]
    rw [show w.heap.size + 1 = (w.alloc o1).heap.size from (World.size_alloc _ _).symm]
    exact heap_alloc_new _ _
  have h2 := ho2.keep _ _ _ _ (by omega) (by decide) h1
  rw [hb3.block _ (lt_of_block h2)]
  exact h2

set_option maxHeartbeats 1000000 in
theorem zzblock15 (B : Nat) (a : Option Addr) (zs : List Int) (cap i n0 : Nat) (ind : Value) (fd si kc : Int) (ka : Bool) (w : World) (hB : B ≤ w.heap.size) (ho : Own B w ind n0)
    (hl : Lb B w a zs) (hz : zs.length ≤ 1048576) (hcap : zs.length ≤ cap) (hi : i ≤ zs.length) (hn0 : n0 ≤ 131072) :
    Calls Trym.prog 15 #[scV 0 ind fd si kc ka, .slice a zs.length cap, .int .i64 i] w (Post15 B zs i w) := by
  obtain ⟨ao, c, rfl⟩ := ho.slice
  go_enter Trym.func15, Trym.ntmps15
  go_wp2_with (first
    | (go_at_call 34; refine (in34 _ _ _ _ _ _ _ _ _).mono ?_; rintro e w1 ⟨bs, rfl, hbs, hsc, hb1⟩; obtain ⟨hbw, hz1⟩ := two_alloc hb1; have hbs' := two_le hbs; have hbk1 : Bk B w1 bs 0 n0 fd si kc ka (.slice ao n0 c) := ⟨hsc, by omega, ho.below hbw⟩; have hlx := hl.below (hbw.mono hB))
    | (go_at_call 35; refine (block35 B bs a zs _ i n0 _ fd si kc ka _ hbk1 hlx hz hcap hi hn0).mono ?_; rintro e w2 hP; obtain ⟨r, st', fd', si', kc', ka', n', ind', rfl, hb2, hbel2, hend⟩ := hP; obtain ⟨ao', c', rfl⟩ := hb2.own.slice)
    | (go_at_call 36; refine (out36 bs _ _ _ _ _ _ _ _ _ hb2.sc).mono ?_; rintro e w3 ⟨rfl, hb3⟩; have hbk := blk4 hb1 hbs hbel2 hb3; obtain ⟨g0, g1, g2, g3, g4, g5, gf⟩ := six hbk; have hb23 : Below B w w3 := (hbw.mono hB).trans (hbel2.bel.trans (hb3.mono (Nat.le_trans hb2.le (Nat.le_of_lt hb2.sc.lt)))); clear hbk hb1 hsc hlx hb3))
  refine bodyPost_ret (v := .tuple #[scV st' (.slice ao' n' c') fd' si' kc' ka', .int .i64 r]) (by simp [results, Trym.results15, go_sem, g0, g1, g2, g3, g4, g5]) rfl ⟨r, st', _, fd', si', kc', ka', rfl, ?_, ⟨_, _, _, rfl⟩, hend⟩
  have hg : B ≤ w.heap.size + 1 := by omega
  exact (((((hb23.setCell hg _).setCell hg _).setCell hg _).setCell hg _).setCell hg _).setCell hg _
end Go.Proofs.Qxb6000713aMods
