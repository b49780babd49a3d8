import Derived.Test.Qxb6000713aModsWj
namespace Go.Proofs.Qxb6000713aMods
open Go.RowKit

theorem Trym.info3 : (Trym.prog.info? 3).map (fun i => (i.zero, i.size, i.bytes)) = some (some (.int .i64 0), 1, 8) := by kernel_rfl

theorem own_of_row {B : Nat} {w : World} {v : Value} {n : Nat} {xs : List Int} (h : w.ownsRow B 3 1 v n (xs.map (Value.int .i64))) (hx : xs.length = n) : Own B w v n := by
  have h' := h
  obtain ⟨_, h2⟩ := h
  rcases h2 with h2 | ⟨g, cap, cur, rfl, _⟩
  · exact .inl h2
  · exact .inr ⟨g, cap, xs, rfl, h', hx⟩

theorem own_ne3 {B : Nat} {w : World} {v : Value} {n i : Nat} {xs : List Value} {cs : Array Value} {t : TypeId} {m : Nat × Nat} (h : w.ownsRow B 3 1 v n xs) (ht : t ≠ 3) (hs : w.heap[i]? = some (.cells cs t m)) : v.ownBlock ≠ some i := by
  obtain ⟨_, h2⟩ := h
  rcases h2 with ⟨rfl, _⟩ | ⟨g, cap, cur, rfl, _, hh, _⟩
  · simp [Value.ownBlock]
  · intro e
    simp [Value.ownBlock] at e
    subst e
    rw [hh] at hs
    simp at hs
    exact ht hs.2.1.symm
theorem push_step {B : Nat} {w w3 : World} {bs : Nat} {st : Int} {n : Nat} {fd si kc col : Int} {ka : Bool} {ind v' : Value} {xs : List Int} {o : Obj} (h : Bk B w bs st n fd si kc ka ind)
    (hown : w.ownsRow B 3 1 ind n (xs.map (Value.int .i64))) (hx : xs.length = n) (hown' : w3.ownsRow B 3 1 v' (n + 1) (xs.map (Value.int .i64) ++ [.int .i64 col])) (hg : (w.alloc o).grownBy w3 ind.ownBlock) :
    Sc w3 bs st ind fd si kc ka ∧ Bk B (w3.setCell ⟨bs, 1, none⟩ v') bs st (n + 1) fd si kc ka v' ∧ Bel B bs w (w3.setCell ⟨bs, 1, none⟩ v') := by
  have hlt := h.sc.lt
  have hne := own_ne hown h.sc
  have hsc : Sc w3 bs st ind fd si kc ka := by
    unfold Sc
    rw [hg.block bs (by simp; omega) (fun e => hne e.symm), heap_alloc_old _ _ hlt]
    exact h.sc
  have ho : Own B w3 v' (n + 1) := own_of_row (xs := xs ++ [col]) (by simpa using hown') (by simp [hx])
  refine ⟨hsc, ⟨hsc.s1 _, h.le, ho.set hsc _⟩, ?_⟩
  have hB : B ≤ w.heap.size := Nat.le_trans h.le (Nat.le_of_lt hlt)
  refine Bel.setCell ⟨((Below.refl B w).alloc hB o).grown hg (by simp; omega) (fun k hk => (hown.lt k hk).1), fun i cs t m h1 h2 h3 => ?_⟩ h.le _
  rw [hg.block i (by have := lt_of_block h3; simp; omega) (fun e => own_ne3 hown h2 h3 e.symm), heap_alloc_old _ _ (lt_of_block h3)]
  exact h3

set_option maxHeartbeats 400000 in
theorem roll43 (B : Nat) (bs : Nat) (st : Int) (n : Nat) (fd si kc : Int) (ka : Bool) (ind : Value) (col : Int) (w : World) (h : Bk B w bs st n fd si kc ka ind) (hn : n ≤ 2000000) :
    Calls Trym.prog 43 #[.pointer (some ⟨bs, 0, none⟩), .int .i64 col] w fun e w' =>
      ∃ n' ind', e = .returned (.tuple #[]) ∧ n' ≤ n + 1 ∧ Bk B w' bs st n' fd si kc ka ind' ∧ Bel B bs w w' := by
  have htop := top44 B bs st n fd si kc ka ind w h hn
  obtain ⟨i0, hi, hz0, hz1, hz2⟩ := info_parts Trym.info3
  go_enter Trym.func43, Trym.ntmps43
  go_wp2_with (first
    | (go_at_call 44; refine htop.mono ?_; rintro e w1 ⟨t, rfl, hs1⟩; have hb1 := h.same hs1; have c1 := hb1.sc.c1; obtain ⟨xs, hown, hxs⟩ := hb1.own.row; have HO : Hid (w1.ownsRow B 3 1 ind n (xs.map (Value.int .i64))) := hown; clear hown; have hbel1 := hs1.bel B bs; have hB1 : B ≤ w1.heap.size := Nat.le_trans hb1.le (Nat.le_of_lt hb1.sc.lt); have hlt1 := hb1.sc.lt)
    | (at_builtin; refine wpList_append_own _ rfl (.tmp 12) (.tmp 14) 22 rfl B 3 i0 (.int .i64 0) 1 8 Trym.underlying22 hi hz0 hz1 hz2 rfl (by decide) _ n _ rfl (HO.out.alloc _) ⟨w1.heap.size, 0, none⟩ 1 1 [.int .i64 col] rfl rfl (cell_one_new _ _ _) (by intro u hu; simp at hu; subst hu; rfl) (by unfold maxLen; omega) (by omega) (by simp; omega) ?_; intro v' w3 hown' hgrow _; obtain ⟨hsc3, hbk3, hbel3⟩ := push_step hb1 HO.out hxs hown' hgrow; obtain ⟨a', cp', rfl⟩ := hbk3.own.slice; have c13 := hsc3.c1; have f13 := hsc3.fr 1; clear hown' hgrow))
  · go_end0
    exact ⟨n + 1, _, rfl, Nat.le_refl _, hbk3, hbel1.trans hbel3⟩
  · go_end0
    exact ⟨n, ind, rfl, by omega, hb1, hbel1⟩

set_option maxHeartbeats 400000 in
theorem quote45 (B : Nat) (bs : Nat) (st : Int) (n : Nat) (fd si kc : Int) (ka : Bool) (ind : Value) (c : Int) (i : Nat) (w : World) (h : Bk B w bs st n fd si kc ka ind) (hi : i ≤ 1048576) :
    Calls Trym.prog 45 #[.pointer (some ⟨bs, 0, none⟩), .int .u8 c, .int .i64 i] w fun e w' =>
      e = .returned (.int .i64 ((i : Int) + 1)) ∧ Bk B w' bs (if c = 39 then 4 else 3) n fd si kc ka ind ∧ Bel B bs w w' := by
  have hsc := h.sc
  have c0 := hsc.c0
  have f0 := hsc.fr 0
  by_cases hc : c = 39
  · subst hc
    have hb1 := h.s0 3
    have c01 := hb1.sc.c0
    have f01 := hb1.sc.fr 0
    go_enter Trym.func45, Trym.ntmps45
    go_wp2
    go_ret
    exact ⟨rfl, hb1.s0 4, ((Bel.refl _ _ _).setCell hb1.le _).setCell hb1.le _⟩
  · have hc' : (c == 39) = false := by simpa using hc
    rw [if_neg hc]
    clear hc
    go_enter Trym.func45, Trym.ntmps45
    go_wp2
    go_ret
    exact ⟨rfl, h.s0 3, (Bel.refl _ _ _).setCell h.le _⟩

/-- what plain leaves -/
def PlainEnd (zs : List Int) (i : Nat) (r st' : Int) : Prop :=
  (r = -1 ∧ (st' = 0 ∨ st' = 1)) ∨ ∃ E : Nat, r = E ∧ st' = 0 ∧ i ≤ E ∧ E < zs.length ∧ zs.getD E 0 = 58 ∧ beB zs (E + 1) = true

theorem Ln.same {w w' : World} {a : Option Addr} {zs : List Int} (h : Ln w a zs) (hs : w'.heap = w.heap) : Ln w' a zs := by
  rcases h with h | ⟨b, off, h1, h3⟩
  · exact .inl h
  · exact .inr ⟨b, off, h1, fun k hk => by have := h3 k hk; unfold World.cell? at this ⊢; rw [hs]; exact this⟩

set_option maxHeartbeats 400000 in
theorem plain47 (B : Nat) (bs : Nat) (st : Int) (n : Nat) (fd si kc : Int) (ka : Bool) (ind : Value) (a : Option Addr) (zs : List Int) (cap i : Nat) (w : World) (h : Bk B w bs st n fd si kc ka ind) (hn : n ≤ 2000000)
    (hl : Ln w a zs) (hz : zs.length ≤ 1048576) (hi : i ≤ zs.length) :
    Calls Trym.prog 47 #[.pointer (some ⟨bs, 0, none⟩), .slice a zs.length cap, .int .i64 i] w fun e w' =>
      ∃ r st' si' : Int, e = .returned (.int .i64 r) ∧ Bk B w' bs st' n fd si' kc ka ind ∧ Bel B bs w w' ∧ PlainEnd zs i r st' := by
  have hpe := plain54 a zs cap i w hl hz hi
  have hsc := h.sc
  have c0 := hsc.c0
  have f0 := hsc.fr 0
  have hb1 := h.s0 1
  have htop := top44 B bs 1 n fd si kc ka ind _ hb1 hn
  go_enter Trym.func47, Trym.ntmps47
  go_upto_region 2 with (go_at_call 54; refine hpe.mono ?_; rintro e wx ⟨E, cm, rfl, hwx, hPE⟩; have hwx := hwx.symm; subst hwx)
  obtain ⟨hE1, hE2, hE3⟩ := hPE
  cases cm with
  | true =>
    clear hE3
    go_wp2
    go_ret
    exact ⟨_, _, _, rfl, h.s0 0, (Bel.refl _ _ _).setCell h.le _, .inl ⟨rfl, .inl rfl⟩⟩
  | false =>
    by_cases hEl : E = zs.length
    · have hmm : ((E : Int) == (zs.length : Int)) = true := by simp [hEl]
      clear hE3 hEl
      go_wp2_with (go_at_call 44; refine htop.mono ?_; rintro e w1 ⟨t, rfl, hs1⟩; have hb2 := hb1.same hs1; have c3 := hb2.sc.c3; have f3 := hb2.sc.fr 3)
      go_ret
      exact ⟨_, _, _, rfl, hb2.s3 _, (((Bel.refl _ _ _).setCell h.le _).trans (hs1.bel B bs)).setCell h.le _, .inl ⟨rfl, .inr rfl⟩⟩
    · have hmm : ((E : Int) == (zs.length : Int)) = false := by simp; omega
      have HP : Hid (PlainEnd zs i E 0) := by
        rcases hE3 with h' | h' | ⟨q1, q2, q3⟩
        · cases h'
        · exact absurd h' hEl
        · exact .inr ⟨E, rfl, rfl, hE1, q1, q2, q3⟩
      clear hE3 hEl
      go_wp2
      go_ret
      exact ⟨_, _, _, rfl, h.s0 0, (Bel.refl _ _ _).setCell h.le _, HP.out⟩
end Go.Proofs.Qxb6000713aMods
