import Derived.Test.Qxb6000713aModsWe
namespace Go.Proofs.Qxb6000713aMods
open Go.RowKit

theorem cell_lt {w : World} {b o : Nat} {v : Value} (h : w.cell? ⟨b, o, none⟩ = some v) : b < w.heap.size := by
  rcases Nat.lt_or_ge b w.heap.size with h' | h'
  · exact h'
  · simp [World.cell?, Array.getElem?_eq_none h'] at h

theorem bcell {B : Nat} {W w1 : World} (hb : Below B W w1) : (∀ b o, b < B → w1.cell? ⟨b, o, none⟩ = W.cell? ⟨b, o, none⟩) ∧ (∀ b o, b < B → w1.frozen? ⟨b, o, none⟩ = W.frozen? ⟨b, o, none⟩) :=
  ⟨fun b o h => hb.cell (p := ⟨b, o, none⟩) h, fun b o h => hb.frozen (p := ⟨b, o, none⟩) h⟩

theorem Ln.lx {w w' : World} {a : Option Addr} {zs : List Int} {bs : Nat} (h : Ln w a zs) (hb : Below w.heap.size w w') (hbs : w.heap.size ≤ bs) : Lx bs w' a zs := by
  rcases h with h | ⟨b, off, h1, h3⟩
  · exact .inl h
  · by_cases hz : zs = []
    · exact .inl hz
    · have hlt : b < w.heap.size := cell_lt (h3 0 (List.length_pos_iff.2 hz))
      exact .inr ⟨b, off, h1, by omega, fun k hk => (hb.cell (p := ⟨b, off + k, none⟩) hlt).trans (h3 k hk)⟩
theorem Ln.below {w w' : World} {a : Option Addr} {zs : List Int} (h : Ln w a zs) (hb : Below w.heap.size w w') : Ln w' a zs := (h.lx hb (Nat.le_refl _)).ln

theorem two_alloc {w w1 : World} {o1 o2 : Obj} (hb : Below ((w.alloc o1).alloc o2).heap.size ((w.alloc o1).alloc o2) w1) : Below w.heap.size w w1 ∧ w.heap.size + 1 < w1.heap.size :=
  ⟨(((Below.refl _ _).alloc (Nat.le_refl _) _).alloc (by simp) _).trans (hb.mono (by simp; omega)), by have := hb.size; simp at this; omega⟩
theorem two_le {w : World} {o1 o2 : Obj} {bs : Nat} (h : ((w.alloc o1).alloc o2).heap.size ≤ bs) : w.heap.size ≤ bs := by simp at h; omega

theorem blk3 {w w1 w2 w3 : World} {o1 o2 : Obj} {bs : Nat} (hb1 : Below ((w.alloc o1).alloc o2).heap.size ((w.alloc o1).alloc o2) w1) (hbs : ((w.alloc o1).alloc o2).heap.size ≤ bs) (ho2 : Only bs w1 w2) (hb3 : Below w2.heap.size w2 w3) :
    w3.heap[w.heap.size + 1]? = some o2 := by
  have hz := (two_alloc hb1).2
  have hs := ho2.size
  simp at hbs
  rw [hb3.block _ (by omega), ho2.block _ (by omega), hb1.block _ (by simp)]
  rw [show w.heap.size + 1 = (w.alloc o1).heap.size from (World.size_alloc _ _).symm]
  exact heap_alloc_new _ _
theorem six {w : World} {g : Nat} {v0 v1 v2 v3 v4 v5 : Value} {t : TypeId} (h : w.heap[g]? = some (.cells #[v0, v1, v2, v3, v4, v5] t (0, 0))) :
    w.cell? ⟨g, 0, none⟩ = some v0 ∧ w.cell? ⟨g, 1, none⟩ = some v1 ∧ w.cell? ⟨g, 2, none⟩ = some v2 ∧ w.cell? ⟨g, 3, none⟩ = some v3 ∧ w.cell? ⟨g, 4, none⟩ = some v4 ∧ w.cell? ⟨g, 5, none⟩ = some v5 ∧ ∀ o, w.frozen? ⟨g, o, none⟩ = false :=
  ⟨by simp [World.cell?, h], by simp [World.cell?, h], by simp [World.cell?, h], by simp [World.cell?, h], by simp [World.cell?, h], by simp [World.cell?, h], fun o => by simp [World.frozen?, h]⟩

set_option maxHeartbeats 1000000 in
theorem zzflow22 (ao : Option Addr) (n c : Nat) (a : Option Addr) (zs : List Int) (cap i : Nat) (fd si kc : Int) (ka : Bool) (w : World)
    (hl : Ln w a zs) (hz : zs.length ≤ 1048576) (hi : i ≤ zs.length) (hf1 : 1 ≤ fd) (hf2 : fd ≤ 1073741824)
    (hok : ∀ k, i ≤ k → k < zs.length → okB (zs.getD k 0)) :
    Calls Trym.prog 22 #[scV 5 (.slice ao n c) fd si kc ka, .slice a zs.length cap, .int .i64 i] w fun e w' =>
      ∃ (r st' fd' : Int) (ka' : Bool), e = .returned (.tuple #[scV st' (.slice ao n c) fd' si kc ka', .int .i64 r]) ∧ Below w.heap.size w w' ∧ FlowEnd zs i fd r st' fd' := by
  go_enter Trym.func22, Trym.ntmps22
  go_wp2_with (first
    | (go_at_call 34; (refine (in34 _ _ _ _ _ _ _ _ _).mono ?_; rintro e w1 ⟨bs, rfl, hbs, hsc, hb1⟩; obtain ⟨hbw, hz1⟩ := two_alloc hb1; have hbs' := two_le hbs; have hlx := hl.lx hbw hbs'))
    | (go_at_call 37; (refine (flow37 bs a zs _ i _ fd si kc ka _ hsc hlx hz hi hf1 hf2 hok).mono ?_; rintro e w2 ⟨r, st', fd', ka', rfl, hsc2, ho2, hend⟩; have hz2 := ho2.size))
    | (go_at_call 36; (refine (out36 bs _ _ _ _ _ _ _ _ _ hsc2).mono ?_; rintro e w3 ⟨rfl, hb3⟩; have hbk := blk3 hb1 hbs ho2 hb3; obtain ⟨g0, g1, g2, g3, g4, g5, gf⟩ := six hbk; have hb23 : Below w.heap.size w w3 := hbw.trans ((ho2.below hbs').trans (hb3.mono (by omega))); clear hbk hb1 hsc hlx hb3)))
  refine bodyPost_ret (v := .tuple #[scV st' (.slice ao n c) fd' si kc ka', .int .i64 r]) (by simp [results, Trym.results22, go_sem, g0, g1, g2, g3, g4, g5]) rfl ⟨r, st', fd', ka', rfl, ?_, hend⟩
  exact (((((hb23.setCell (Nat.le_succ _) _).setCell (Nat.le_succ _) _).setCell (Nat.le_succ _) _).setCell (Nat.le_succ _) _).setCell (Nat.le_succ _) _).setCell (Nat.le_succ _) _
end Go.Proofs.Qxb6000713aMods
