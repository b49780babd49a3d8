import Derived.Test.Qxb6000713aModsWl
namespace Go.Proofs.Qxb6000713aMods
open Go.RowKit

/-- a line's cells, below block B -/
def Lb (B : Nat) (w : World) (a : Option Addr) (zs : List Int) : Prop :=
  zs = [] ∨ ∃ b off, a = some ⟨b, off, none⟩ ∧ b < B ∧ ∀ k, k < zs.length → w.cell? ⟨b, off + k, none⟩ = some (.int .u8 (zs.getD k 0))
theorem Lb.ln {B : Nat} {w : World} {a : Option Addr} {zs : List Int} (h : Lb B w a zs) : Ln w a zs := by
  rcases h with h | ⟨b, off, h1, _, h3⟩
  · exact .inl h
  · exact .inr ⟨b, off, h1, h3⟩
theorem Lb.below {B : Nat} {w w' : World} {a : Option Addr} {zs : List Int} (h : Lb B w a zs) (hb : Below B w w') : Lb B w' a zs := by
  rcases h with h | ⟨b, off, h1, h2, h3⟩
  · exact .inl h
  · exact .inr ⟨b, off, h1, h2, fun k hk => (hb.cell (p := ⟨b, off + k, none⟩) h2).trans (h3 k hk)⟩

/-- what blockTokens leaves -/
def BlockEnd (zs : List Int) (i : Nat) (r st' fd' : Int) : Prop :=
  (r = -1 ∧ (st' = 0 ∨ st' = 1 ∨ st' = 2)) ∨
  ∃ E : Nat, r = E ∧ i < E ∧ E ≤ zs.length ∧
    ((st' = 0 ∧ E < zs.length ∧ zs.getD E 0 = 58 ∧ beB zs (E + 1) = true) ∨ (st' = 3 ∧ zs.getD (E - 1) 0 = 34) ∨ (st' = 4 ∧ zs.getD (E - 1) 0 = 39) ∨ (st' = 5 ∧ fd' = 1 ∧ (zs.getD (E - 1) 0 = 91 ∨ zs.getD (E - 1) 0 = 123)))

/-- behind blockTokens (a name of its own: the walk leaves it standing) -/
def Post35 (B bs : Nat) (zs : List Int) (i : Nat) (w : World) (e : Ending) (w' : World) : Prop :=
  ∃ (r st' fd' si' kc' : Int) (ka' : Bool) (n' : Nat) (ind' : Value), e = .returned (.int .i64 r) ∧ Bk B w' bs st' n' fd' si' kc' ka' ind' ∧ Bel B bs w w' ∧ BlockEnd zs i r st' fd'
theorem post35 {B bs : Nat} {zs : List Int} {i : Nat} {w : World} {e : Ending} {w' : World} {r st' fd' si' kc' : Int} {ka' : Bool} {n' : Nat} {ind' : Value} (h1 : e = .returned (.int .i64 r)) (h2 : Bk B w' bs st' n' fd' si' kc' ka' ind') (h3 : Bel B bs w w') (h4 : BlockEnd zs i r st' fd') :
    Post35 B bs zs i w e w' := ⟨r, st', fd', si', kc', ka', n', ind', h1, h2, h3, h4⟩

theorem blk_cases (c : Int) : c = 58 ∨ c = 45 ∨ c = 63 ∨ c = 124 ∨ c = 62 ∨ c = 34 ∨ c = 39 ∨ c = 91 ∨ c = 123 ∨ c = 38 ∨ c = 42 ∨ c = 33 ∨
    ((c == 58) = false ∧ (c == 45) = false ∧ (c == 63) = false ∧ (c == 124) = false ∧ (c == 62) = false ∧ (c == 34) = false ∧ (c == 39) = false ∧ (c == 91) = false ∧ (c == 123) = false ∧ (c == 38) = false ∧ (c == 42) = false ∧ (c == 33) = false) := by
  simp only [beq_eq_false_iff_ne, ne_eq]
  omega
theorem block_of_plain {zs : List Int} {i m : Nat} {r st' fd : Int} (h : PlainEnd zs m r st') (him : i ≤ m) (hne : ¬ (zs.getD m 0 = 58 ∧ beB zs (m + 1) = true)) : BlockEnd zs i r st' fd := by
  rcases h with ⟨h1, h2⟩ | ⟨E, h1, h2, h3, h4, h5, h6⟩
  · refine .inl ⟨h1, ?_⟩
    rcases h2 with h2 | h2
    · exact .inl h2
    · exact .inr (.inl h2)
  · have hE : E ≠ m := fun e => hne (by subst e; exact ⟨h5, h6⟩)
    exact .inr ⟨E, h1, by omega, by omega, .inl ⟨h2, h4, h5, h6⟩⟩

set_option maxHeartbeats 2000000 in
set_option maxRecDepth 100000 in
theorem block35 (B bs : Nat) (a : Option Addr) (zs : List Int) (cap i n0 : Nat) (ind0 : Value) (fd si0 kc0 : Int) (ka0 : Bool) (w : World)
    (hs : Bk B w bs 0 n0 fd si0 kc0 ka0 ind0) (hl : Lb B w a zs) (hz : zs.length ≤ 1048576) (hcap : zs.length ≤ cap) (hi : i ≤ zs.length) (hn0 : n0 ≤ 131072) :
    Calls Trym.prog 35 #[.pointer (some ⟨bs, 0, none⟩), .slice a zs.length cap, .int .i64 i] w (Post35 B bs zs i w) := by
  go_enter Trym.func35, Trym.ntmps35
  go_wp2
  go_loopw [2] (fun t wr => ∃ (k n : Nat) (si kc : Int) (ka : Bool) (ind : Value), t = .int .i64 k ∧ i ≤ k ∧ k ≤ zs.length ∧ n ≤ n0 + (k - i) ∧ Bk B wr bs 0 n fd si kc ka ind ∧ Bel B bs w wr) (fun t _ => zs.length - (intOf t).toNat)
  case atStart => exact ⟨i, n0, si0, kc0, ka0, ind0, rfl, Nat.le_refl _, hi, by omega, hs, Bel.refl _ _ _⟩
  case round =>
    obtain ⟨k, n, si, kc, ka, ind, rfl, hik, hk, hn, hbk, hbel⟩ := hrel
    have hlb := hl.below hbel.bel
    have hln := hlb.ln
    have hskip := fun c => skip41 a zs c k wr hln hz hk
    obtain ⟨s1, s2, s3, _⟩ := sk_spec zs _ k rfl hk
    obtain ⟨m, HM⟩ : ∃ m, Hid (sk zs k = m) := ⟨_, rfl⟩
    rw [HM.out] at s1 s2 s3
    have hskip' : ∀ c, Calls Trym.prog 41 #[.slice a zs.length c, .int .i64 k] wr fun e w' => e = .returned (.int .i64 m) ∧ w' = wr := by
      intro c; have := hskip c; rw [HM.out] at this; exact this
    clear hskip HM
    by_cases hm : m = zs.length
    · have hmm : ((m : Int) == (zs.length : Int)) = true := by simp [hm]
      clear hm s3
      go_wp2_with (go_at_call 41; refine (hskip' _).mono ?_; rintro e w' ⟨rfl, rfl⟩)
      go_ret
      exact post35 rfl hbk hbel (.inl ⟨rfl, .inl rfl⟩)
    · have hml : m < zs.length := by omega
      have hmm : ((m : Int) == (zs.length : Int)) = false := by simp; omega
      clear s3 hm
      rcases hlb with rfl | ⟨b, off, rfl, hbB, hc⟩
      · simp at hml
      have hcm := hc m hml
      obtain ⟨c, HC⟩ : ∃ c, Hid (zs.getD m 0 = c) := ⟨_, rfl⟩
      rw [HC.out] at hcm
      clear hc
      by_cases hc35 : c = 35
      · subst hc35
        go_wp2_with (go_at_call 41; refine (hskip' _).mono ?_; rintro e w' ⟨rfl, rfl⟩)
        go_ret
        exact post35 rfl hbk hbel (.inl ⟨rfl, .inl rfl⟩)
      · have h35 : (c == 35) = false := by simpa using hc35
        have hml' : (m : Int) < (zs.length : Int) := by omega
        have hbe : ∀ (x cc : Nat), Calls Trym.prog 42 #[.slice (some ⟨b, off, none⟩) zs.length cc, .int .i64 ((m : Int) + 1)] (wr.drewN x) fun e w' => e = .returned (.bool (beB zs (m + 1))) ∧ w' = wr.drewN x :=
          fun x cc => be42 (some ⟨b, off, none⟩) zs cc (m + 1) (wr.drewN x) (hln.same (Same.drewN wr x).heap) hz (by omega)
        go_upto_region 4 with (go_at_call 41; refine (hskip' _).mono ?_; rintro e wx ⟨rfl, hwx⟩; have hwx := hwx.symm; subst hwx)
        go_quiet ((go_at_call 42; exact Calls.quiet_of_same (hbe _ _)))
        have hq := hbk.same (Same.drewN wr nq)
        have hbelq : Bel B bs w (wr.drewN nq) := hbel.trans ((Same.drewN wr nq).bel B bs)
        have hlq := hl.below hbelq.bel
        obtain ⟨ee, HE⟩ : ∃ e, Hid (beB zs (m + 1) = e) := ⟨_, rfl⟩
        simp only [HE.out]
        clear hskip' hbe hbel hln hbk hcm
        generalize wr.drewN nq = wq at hq hbelq hlq ⊢
        have c4 := hq.sc.c4
        have c5 := hq.sc.c5
        have c0 := hq.sc.c0
        have c3 := hq.sc.c3
        have f0 := hq.sc.fr 0
        have f3 := hq.sc.fr 3
        have f4 := hq.sc.fr 4
        have f5 := hq.sc.fr 5
        rcases blk_cases c with rfl | rfl | rfl | rfl | rfl | rfl | rfl | rfl | rfl | rfl | rfl | rfl | ⟨n1, n2, n3, n4, n5, n6, n7, n8, n9, n10, n11, n12⟩
        · cases ee with
          | true =>
            by_cases hkc : 0 ≤ kc
            · go_wp2_with (go_at_call 43; refine (roll43 B bs 0 n fd si kc ka ind _ wq hq (by omega)).mono ?_; rintro e w1 ⟨n1, ind1, rfl, hn1, hb1, hbel1⟩; have c4 := hb1.sc.c4; have c5 := hb1.sc.c5; have f4 := hb1.sc.fr 4; have f5 := hb1.sc.fr 5; have hB1 := hb1.le)
              go_roundw
              case rel => exact ⟨m + 1, n1, si, -1, false, ind1, by go_num, by omega, by omega, by omega, (hb1.s4 (-1)).s5 false, ((hbelq.trans hbel1).setCell hB1 _).setCell hB1 _⟩
              case measure => simp [intOf]; omega
            · go_wp2_with (go_at_call 43; refine (roll43 B bs 0 n fd si kc ka ind _ wq hq (by omega)).mono ?_; rintro e w1 ⟨n1, ind1, rfl, hn1, hb1, hbel1⟩; have c4 := hb1.sc.c4; have c5 := hb1.sc.c5; have f4 := hb1.sc.fr 4; have f5 := hb1.sc.fr 5; have hB1 := hb1.le)
              go_roundw
              case rel => exact ⟨m + 1, n1, si, -1, true, ind1, by go_num, by omega, by omega, by omega, (hb1.s4 (-1)).s5 true, ((hbelq.trans hbel1).setCell hB1 _).setCell hB1 _⟩
              case measure => simp [intOf]; omega
          | false =>
            cases ka
            · have hnd := hq.s5 false
              have hbn : Bel B bs w (wq.setCell ⟨bs, 5, none⟩ (.bool false)) := hbelq.setCell hq.le _
              have d0 := hnd.sc.c0
              have d2 := hnd.sc.c2
              have e0 := hnd.sc.fr 0
              have e2 := hnd.sc.fr 2
              have hpl := plain47 B bs 0 n fd si kc false ind (some ⟨b, off, none⟩) zs cap m _ hnd (by omega) (hl.below hbn.bel).ln hz (by omega)
              go_wp2_with (go_at_call 47; refine hpl.mono ?_; rintro e w1 ⟨r, st', si', rfl, hb1, hbel1, hpe⟩)
              go_ret
              exact post35 rfl hb1 (hbn.trans hbel1) (block_of_plain hpe (by omega) (by rintro ⟨q1, q2⟩; rw [HE.out] at q2; cases q2))
            · have hnd := (hq.s4 m).s5 false
              have hbn : Bel B bs w ((wq.setCell ⟨bs, 4, none⟩ (.int .i64 m)).setCell ⟨bs, 5, none⟩ (.bool false)) := (hbelq.setCell hq.le _).setCell hq.le _
              have d0 := hnd.sc.c0
              have d2 := hnd.sc.c2
              have e0 := hnd.sc.fr 0
              have e2 := hnd.sc.fr 2
              have hn4 := hq.s4 m
              have g5 := hn4.sc.c5
              have j5 := hn4.sc.fr 5
              have hpl := plain47 B bs 0 n fd si (m : Int) false ind (some ⟨b, off, none⟩) zs cap m _ hnd (by omega) (hl.below hbn.bel).ln hz (by omega)
              go_wp2_with (go_at_call 47; refine hpl.mono ?_; rintro e w1 ⟨r, st', si', rfl, hb1, hbel1, hpe⟩)
              go_ret
              exact post35 rfl hb1 (hbn.trans hbel1) (block_of_plain hpe (by omega) (by rintro ⟨q1, q2⟩; rw [HE.out] at q2; cases q2))
        · cases ee with
          | true =>
            go_wp2_with (go_at_call 43; refine (roll43 B bs 0 n fd si kc ka ind _ wq hq (by omega)).mono ?_; rintro e w1 ⟨n1, ind1, rfl, hn1, hb1, hbel1⟩; have c4 := hb1.sc.c4; have c5 := hb1.sc.c5; have f4 := hb1.sc.fr 4; have f5 := hb1.sc.fr 5; have hB1 := hb1.le)
            go_roundw
            case rel => exact ⟨m + 1, n1, si, -1, true, ind1, by go_num, by omega, by omega, by omega, (hb1.s4 (-1)).s5 true, ((hbelq.trans hbel1).setCell hB1 _).setCell hB1 _⟩
            case measure => simp [intOf]; omega
          | false =>
            cases ka
            · have hnd := hq.s5 false
              have hbn : Bel B bs w (wq.setCell ⟨bs, 5, none⟩ (.bool false)) := hbelq.setCell hq.le _
              have d0 := hnd.sc.c0
              have d2 := hnd.sc.c2
              have e0 := hnd.sc.fr 0
              have e2 := hnd.sc.fr 2
              have hpl := plain47 B bs 0 n fd si kc false ind (some ⟨b, off, none⟩) zs cap m _ hnd (by omega) (hl.below hbn.bel).ln hz (by omega)
              go_wp2_with (go_at_call 47; refine hpl.mono ?_; rintro e w1 ⟨r, st', si', rfl, hb1, hbel1, hpe⟩)
              go_ret
              exact post35 rfl hb1 (hbn.trans hbel1) (block_of_plain hpe (by omega) (by rintro ⟨q1, q2⟩; rw [HE.out] at q2; cases q2))
            · have hnd := (hq.s4 m).s5 false
              have hbn : Bel B bs w ((wq.setCell ⟨bs, 4, none⟩ (.int .i64 m)).setCell ⟨bs, 5, none⟩ (.bool false)) := (hbelq.setCell hq.le _).setCell hq.le _
              have d0 := hnd.sc.c0
              have d2 := hnd.sc.c2
              have e0 := hnd.sc.fr 0
              have e2 := hnd.sc.fr 2
              have hn4 := hq.s4 m
              have g5 := hn4.sc.c5
              have j5 := hn4.sc.fr 5
              have hpl := plain47 B bs 0 n fd si (m : Int) false ind (some ⟨b, off, none⟩) zs cap m _ hnd (by omega) (hl.below hbn.bel).ln hz (by omega)
              go_wp2_with (go_at_call 47; refine hpl.mono ?_; rintro e w1 ⟨r, st', si', rfl, hb1, hbel1, hpe⟩)
              go_ret
              exact post35 rfl hb1 (hbn.trans hbel1) (block_of_plain hpe (by omega) (by rintro ⟨q1, q2⟩; rw [HE.out] at q2; cases q2))
        · cases ee with
          | true =>
            go_wp2_with (go_at_call 43; refine (roll43 B bs 0 n fd si kc ka ind _ wq hq (by omega)).mono ?_; rintro e w1 ⟨n1, ind1, rfl, hn1, hb1, hbel1⟩; have c4 := hb1.sc.c4; have c5 := hb1.sc.c5; have f4 := hb1.sc.fr 4; have f5 := hb1.sc.fr 5; have hB1 := hb1.le)
            go_roundw
            case rel => exact ⟨m + 1, n1, si, -1, true, ind1, by go_num, by omega, by omega, by omega, (hb1.s4 (-1)).s5 true, ((hbelq.trans hbel1).setCell hB1 _).setCell hB1 _⟩
            case measure => simp [intOf]; omega
          | false =>
            cases ka
            · have hnd := hq.s5 false
              have hbn : Bel B bs w (wq.setCell ⟨bs, 5, none⟩ (.bool false)) := hbelq.setCell hq.le _
              have d0 := hnd.sc.c0
              have d2 := hnd.sc.c2
              have e0 := hnd.sc.fr 0
              have e2 := hnd.sc.fr 2
              have hpl := plain47 B bs 0 n fd si kc false ind (some ⟨b, off, none⟩) zs cap m _ hnd (by omega) (hl.below hbn.bel).ln hz (by omega)
              go_wp2_with (go_at_call 47; refine hpl.mono ?_; rintro e w1 ⟨r, st', si', rfl, hb1, hbel1, hpe⟩)
              go_ret
              exact post35 rfl hb1 (hbn.trans hbel1) (block_of_plain hpe (by omega) (by rintro ⟨q1, q2⟩; rw [HE.out] at q2; cases q2))
            · have hnd := (hq.s4 m).s5 false
              have hbn : Bel B bs w ((wq.setCell ⟨bs, 4, none⟩ (.int .i64 m)).setCell ⟨bs, 5, none⟩ (.bool false)) := (hbelq.setCell hq.le _).setCell hq.le _
              have d0 := hnd.sc.c0
              have d2 := hnd.sc.c2
              have e0 := hnd.sc.fr 0
              have e2 := hnd.sc.fr 2
              have hn4 := hq.s4 m
              have g5 := hn4.sc.c5
              have j5 := hn4.sc.fr 5
              have hpl := plain47 B bs 0 n fd si (m : Int) false ind (some ⟨b, off, none⟩) zs cap m _ hnd (by omega) (hl.below hbn.bel).ln hz (by omega)
              go_wp2_with (go_at_call 47; refine hpl.mono ?_; rintro e w1 ⟨r, st', si', rfl, hb1, hbel1, hpe⟩)
              go_ret
              exact post35 rfl hb1 (hbn.trans hbel1) (block_of_plain hpe (by omega) (by rintro ⟨q1, q2⟩; rw [HE.out] at q2; cases q2))
        · have htop := top44 B bs 2 n fd si kc ka ind _ (hq.s0 2) (by omega)
          go_wp2_with (go_at_call 44; refine htop.mono ?_; rintro e w1 ⟨t, rfl, hs1⟩; have hb2 := (hq.s0 2).same hs1; have c31 := hb2.sc.c3; have f31 := hb2.sc.fr 3)
          all_goals go_ret
          all_goals exact post35 rfl (hb2.s3 _) (((hbelq.setCell hq.le _).trans (hs1.bel B bs)).setCell hq.le _) (.inl ⟨rfl, .inr (.inr rfl)⟩)
        · have htop := top44 B bs 2 n fd si kc ka ind _ (hq.s0 2) (by omega)
          go_wp2_with (go_at_call 44; refine htop.mono ?_; rintro e w1 ⟨t, rfl, hs1⟩; have hb2 := (hq.s0 2).same hs1; have c31 := hb2.sc.c3; have f31 := hb2.sc.fr 3)
          all_goals go_ret
          all_goals exact post35 rfl (hb2.s3 _) (((hbelq.setCell hq.le _).trans (hs1.bel B bs)).setCell hq.le _) (.inl ⟨rfl, .inr (.inr rfl)⟩)
        · cases ka
          · have hnd := hq.s5 false
            have hbn : Bel B bs w (wq.setCell ⟨bs, 5, none⟩ (.bool false)) := hbelq.setCell hq.le _
            have d0 := hnd.sc.c0
            have d2 := hnd.sc.c2
            have e0 := hnd.sc.fr 0
            have e2 := hnd.sc.fr 2
            have hqu := quote45 B bs 0 n fd si kc false ind 34 m _ hnd (by omega)
            go_wp2_with (go_at_call 45; refine hqu.mono ?_; rintro e w1 ⟨rfl, hb1, hbel1⟩)
            go_ret
            exact post35 rfl hb1 (hbn.trans hbel1) (.inr ⟨m + 1, by omega, by omega, by omega, .inr (.inl ⟨rfl, HC.out⟩)⟩)
          · have hnd := (hq.s4 m).s5 false
            have hbn : Bel B bs w ((wq.setCell ⟨bs, 4, none⟩ (.int .i64 m)).setCell ⟨bs, 5, none⟩ (.bool false)) := (hbelq.setCell hq.le _).setCell hq.le _
            have d0 := hnd.sc.c0
            have d2 := hnd.sc.c2
            have e0 := hnd.sc.fr 0
            have e2 := hnd.sc.fr 2
            have hn4 := hq.s4 m
            have g5 := hn4.sc.c5
            have j5 := hn4.sc.fr 5
            have hqu := quote45 B bs 0 n fd si (m : Int) false ind 34 m _ hnd (by omega)
            go_wp2_with (go_at_call 45; refine hqu.mono ?_; rintro e w1 ⟨rfl, hb1, hbel1⟩)
            go_ret
            exact post35 rfl hb1 (hbn.trans hbel1) (.inr ⟨m + 1, by omega, by omega, by omega, .inr (.inl ⟨rfl, HC.out⟩)⟩)
        · cases ka
          · have hnd := hq.s5 false
            have hbn : Bel B bs w (wq.setCell ⟨bs, 5, none⟩ (.bool false)) := hbelq.setCell hq.le _
            have d0 := hnd.sc.c0
            have d2 := hnd.sc.c2
            have e0 := hnd.sc.fr 0
            have e2 := hnd.sc.fr 2
            have hqu := quote45 B bs 0 n fd si kc false ind 39 m _ hnd (by omega)
            go_wp2_with (go_at_call 45; refine hqu.mono ?_; rintro e w1 ⟨rfl, hb1, hbel1⟩)
            go_ret
            exact post35 rfl hb1 (hbn.trans hbel1) (.inr ⟨m + 1, by omega, by omega, by omega, .inr (.inr (.inl ⟨rfl, HC.out⟩))⟩)
          · have hnd := (hq.s4 m).s5 false
            have hbn : Bel B bs w ((wq.setCell ⟨bs, 4, none⟩ (.int .i64 m)).setCell ⟨bs, 5, none⟩ (.bool false)) := (hbelq.setCell hq.le _).setCell hq.le _
            have d0 := hnd.sc.c0
            have d2 := hnd.sc.c2
            have e0 := hnd.sc.fr 0
            have e2 := hnd.sc.fr 2
            have hn4 := hq.s4 m
            have g5 := hn4.sc.c5
            have j5 := hn4.sc.fr 5
            have hqu := quote45 B bs 0 n fd si (m : Int) false ind 39 m _ hnd (by omega)
            go_wp2_with (go_at_call 45; refine hqu.mono ?_; rintro e w1 ⟨rfl, hb1, hbel1⟩)
            go_ret
            exact post35 rfl hb1 (hbn.trans hbel1) (.inr ⟨m + 1, by omega, by omega, by omega, .inr (.inr (.inl ⟨rfl, HC.out⟩))⟩)
        · cases ka
          · have hnd := hq.s5 false
            have hbn : Bel B bs w (wq.setCell ⟨bs, 5, none⟩ (.bool false)) := hbelq.setCell hq.le _
            have d0 := hnd.sc.c0
            have d2 := hnd.sc.c2
            have e0 := hnd.sc.fr 0
            have e2 := hnd.sc.fr 2
            go_wp2
            go_ret
            exact post35 rfl ((hnd.s2 1).s0 5) ((hbn.setCell hq.le _).setCell hq.le _) (.inr ⟨m + 1, by omega, by omega, by omega, .inr (.inr (.inr ⟨rfl, rfl, (.inl HC.out)⟩))⟩)
          · have hnd := (hq.s4 m).s5 false
            have hbn : Bel B bs w ((wq.setCell ⟨bs, 4, none⟩ (.int .i64 m)).setCell ⟨bs, 5, none⟩ (.bool false)) := (hbelq.setCell hq.le _).setCell hq.le _
            have d0 := hnd.sc.c0
            have d2 := hnd.sc.c2
            have e0 := hnd.sc.fr 0
            have e2 := hnd.sc.fr 2
            have hn4 := hq.s4 m
            have g5 := hn4.sc.c5
            have j5 := hn4.sc.fr 5
            go_wp2
            go_ret
            exact post35 rfl ((hnd.s2 1).s0 5) ((hbn.setCell hq.le _).setCell hq.le _) (.inr ⟨m + 1, by omega, by omega, by omega, .inr (.inr (.inr ⟨rfl, rfl, (.inl HC.out)⟩))⟩)
        · cases ka
          · have hnd := hq.s5 false
            have hbn : Bel B bs w (wq.setCell ⟨bs, 5, none⟩ (.bool false)) := hbelq.setCell hq.le _
            have d0 := hnd.sc.c0
            have d2 := hnd.sc.c2
            have e0 := hnd.sc.fr 0
            have e2 := hnd.sc.fr 2
            go_wp2
            go_ret
            exact post35 rfl ((hnd.s2 1).s0 5) ((hbn.setCell hq.le _).setCell hq.le _) (.inr ⟨m + 1, by omega, by omega, by omega, .inr (.inr (.inr ⟨rfl, rfl, (.inr HC.out)⟩))⟩)
          · have hnd := (hq.s4 m).s5 false
            have hbn : Bel B bs w ((wq.setCell ⟨bs, 4, none⟩ (.int .i64 m)).setCell ⟨bs, 5, none⟩ (.bool false)) := (hbelq.setCell hq.le _).setCell hq.le _
            have d0 := hnd.sc.c0
            have d2 := hnd.sc.c2
            have e0 := hnd.sc.fr 0
            have e2 := hnd.sc.fr 2
            have hn4 := hq.s4 m
            have g5 := hn4.sc.c5
            have j5 := hn4.sc.fr 5
            go_wp2
            go_ret
            exact post35 rfl ((hnd.s2 1).s0 5) ((hbn.setCell hq.le _).setCell hq.le _) (.inr ⟨m + 1, by omega, by omega, by omega, .inr (.inr (.inr ⟨rfl, rfl, (.inr HC.out)⟩))⟩)
        · cases ka
          · have hnd := hq.s5 false
            have hbn : Bel B bs w (wq.setCell ⟨bs, 5, none⟩ (.bool false)) := hbelq.setCell hq.le _
            have d0 := hnd.sc.c0
            have d2 := hnd.sc.c2
            have e0 := hnd.sc.fr 0
            have e2 := hnd.sc.fr 2
            have hpr := prop46 (some ⟨b, off, none⟩) zs cap m _ (hl.below hbn.bel).ln hz hcap hml
            go_wp2_with (go_at_call 46; refine hpr.mono ?_; rintro e w1 ⟨j, rfl, hj1, hj2, hbel1⟩)
            go_roundw
            case rel => exact ⟨j, n, si, kc, false, ind, rfl, by omega, by omega, by omega, hnd.below hbel1, hbn.trans (Bel.new hbel1 (Nat.le_trans hnd.le (Nat.le_of_lt hnd.sc.lt)))⟩
            case measure => simp [intOf]; omega
          · have hnd := (hq.s4 m).s5 false
            have hbn : Bel B bs w ((wq.setCell ⟨bs, 4, none⟩ (.int .i64 m)).setCell ⟨bs, 5, none⟩ (.bool false)) := (hbelq.setCell hq.le _).setCell hq.le _
            have d0 := hnd.sc.c0
            have d2 := hnd.sc.c2
            have e0 := hnd.sc.fr 0
            have e2 := hnd.sc.fr 2
            have hn4 := hq.s4 m
            have g5 := hn4.sc.c5
            have j5 := hn4.sc.fr 5
            have hpr := prop46 (some ⟨b, off, none⟩) zs cap m _ (hl.below hbn.bel).ln hz hcap hml
            go_wp2_with (go_at_call 46; refine hpr.mono ?_; rintro e w1 ⟨j, rfl, hj1, hj2, hbel1⟩)
            go_roundw
            case rel => exact ⟨j, n, si, (m : Int), false, ind, rfl, by omega, by omega, by omega, hnd.below hbel1, hbn.trans (Bel.new hbel1 (Nat.le_trans hnd.le (Nat.le_of_lt hnd.sc.lt)))⟩
            case measure => simp [intOf]; omega
        · cases ka
          · have hnd := hq.s5 false
            have hbn : Bel B bs w (wq.setCell ⟨bs, 5, none⟩ (.bool false)) := hbelq.setCell hq.le _
            have d0 := hnd.sc.c0
            have d2 := hnd.sc.c2
            have e0 := hnd.sc.fr 0
            have e2 := hnd.sc.fr 2
            have hpr := prop46 (some ⟨b, off, none⟩) zs cap m _ (hl.below hbn.bel).ln hz hcap hml
            go_wp2_with (go_at_call 46; refine hpr.mono ?_; rintro e w1 ⟨j, rfl, hj1, hj2, hbel1⟩)
            go_roundw
            case rel => exact ⟨j, n, si, kc, false, ind, rfl, by omega, by omega, by omega, hnd.below hbel1, hbn.trans (Bel.new hbel1 (Nat.le_trans hnd.le (Nat.le_of_lt hnd.sc.lt)))⟩
            case measure => simp [intOf]; omega
          · have hnd := (hq.s4 m).s5 false
            have hbn : Bel B bs w ((wq.setCell ⟨bs, 4, none⟩ (.int .i64 m)).setCell ⟨bs, 5, none⟩ (.bool false)) := (hbelq.setCell hq.le _).setCell hq.le _
            have d0 := hnd.sc.c0
            have d2 := hnd.sc.c2
            have e0 := hnd.sc.fr 0
            have e2 := hnd.sc.fr 2
            have hn4 := hq.s4 m
            have g5 := hn4.sc.c5
            have j5 := hn4.sc.fr 5
            have hpr := prop46 (some ⟨b, off, none⟩) zs cap m _ (hl.below hbn.bel).ln hz hcap hml
            go_wp2_with (go_at_call 46; refine hpr.mono ?_; rintro e w1 ⟨j, rfl, hj1, hj2, hbel1⟩)
            go_roundw
            case rel => exact ⟨j, n, si, (m : Int), false, ind, rfl, by omega, by omega, by omega, hnd.below hbel1, hbn.trans (Bel.new hbel1 (Nat.le_trans hnd.le (Nat.le_of_lt hnd.sc.lt)))⟩
            case measure => simp [intOf]; omega
        · cases ka
          · have hnd := hq.s5 false
            have hbn : Bel B bs w (wq.setCell ⟨bs, 5, none⟩ (.bool false)) := hbelq.setCell hq.le _
            have d0 := hnd.sc.c0
            have d2 := hnd.sc.c2
            have e0 := hnd.sc.fr 0
            have e2 := hnd.sc.fr 2
            have hpr := prop46 (some ⟨b, off, none⟩) zs cap m _ (hl.below hbn.bel).ln hz hcap hml
            go_wp2_with (go_at_call 46; refine hpr.mono ?_; rintro e w1 ⟨j, rfl, hj1, hj2, hbel1⟩)
            go_roundw
            case rel => exact ⟨j, n, si, kc, false, ind, rfl, by omega, by omega, by omega, hnd.below hbel1, hbn.trans (Bel.new hbel1 (Nat.le_trans hnd.le (Nat.le_of_lt hnd.sc.lt)))⟩
            case measure => simp [intOf]; omega
          · have hnd := (hq.s4 m).s5 false
            have hbn : Bel B bs w ((wq.setCell ⟨bs, 4, none⟩ (.int .i64 m)).setCell ⟨bs, 5, none⟩ (.bool false)) := (hbelq.setCell hq.le _).setCell hq.le _
            have d0 := hnd.sc.c0
            have d2 := hnd.sc.c2
            have e0 := hnd.sc.fr 0
            have e2 := hnd.sc.fr 2
            have hn4 := hq.s4 m
            have g5 := hn4.sc.c5
            have j5 := hn4.sc.fr 5
            have hpr := prop46 (some ⟨b, off, none⟩) zs cap m _ (hl.below hbn.bel).ln hz hcap hml
            go_wp2_with (go_at_call 46; refine hpr.mono ?_; rintro e w1 ⟨j, rfl, hj1, hj2, hbel1⟩)
            go_roundw
            case rel => exact ⟨j, n, si, (m : Int), false, ind, rfl, by omega, by omega, by omega, hnd.below hbel1, hbn.trans (Bel.new hbel1 (Nat.le_trans hnd.le (Nat.le_of_lt hnd.sc.lt)))⟩
            case measure => simp [intOf]; omega
        · have hc58 : c ≠ 58 := by simpa using n1
          cases ka
          · have hnd := hq.s5 false
            have hbn : Bel B bs w (wq.setCell ⟨bs, 5, none⟩ (.bool false)) := hbelq.setCell hq.le _
            have d0 := hnd.sc.c0
            have d2 := hnd.sc.c2
            have e0 := hnd.sc.fr 0
            have e2 := hnd.sc.fr 2
            have hpl := plain47 B bs 0 n fd si kc false ind (some ⟨b, off, none⟩) zs cap m _ hnd (by omega) (hl.below hbn.bel).ln hz (by omega)
            go_wp2_with (go_at_call 47; refine hpl.mono ?_; rintro e w1 ⟨r, st', si', rfl, hb1, hbel1, hpe⟩)
            go_ret
            exact post35 rfl hb1 (hbn.trans hbel1) (block_of_plain hpe (by omega) (by rintro ⟨q1, q2⟩; rw [HC.out] at q1; exact hc58 q1))
          · have hnd := (hq.s4 m).s5 false
            have hbn : Bel B bs w ((wq.setCell ⟨bs, 4, none⟩ (.int .i64 m)).setCell ⟨bs, 5, none⟩ (.bool false)) := (hbelq.setCell hq.le _).setCell hq.le _
            have d0 := hnd.sc.c0
            have d2 := hnd.sc.c2
            have e0 := hnd.sc.fr 0
            have e2 := hnd.sc.fr 2
            have hn4 := hq.s4 m
            have g5 := hn4.sc.c5
            have j5 := hn4.sc.fr 5
            have hpl := plain47 B bs 0 n fd si (m : Int) false ind (some ⟨b, off, none⟩) zs cap m _ hnd (by omega) (hl.below hbn.bel).ln hz (by omega)
            go_wp2_with (go_at_call 47; refine hpl.mono ?_; rintro e w1 ⟨r, st', si', rfl, hb1, hbel1, hpe⟩)
            go_ret
            exact post35 rfl hb1 (hbn.trans hbel1) (block_of_plain hpe (by omega) (by rintro ⟨q1, q2⟩; rw [HC.out] at q1; exact hc58 q1))
end Go.Proofs.Qxb6000713aMods
