import Derived.Test.Qxb6000713aModsWo
namespace Go.Proofs.Qxb6000713aMods
open Go.RowKit

theorem Lb.of_ln {B : Nat} {w : World} {a : Option Addr} {zs : List Int} (h : Ln w a zs) (hB : w.heap.size ≤ B) : Lb B w a zs := by
  rcases h with h | ⟨b, off, h1, h3⟩
  · exact .inl h
  · by_cases hz : zs = []
    · exact .inl hz
    · exact .inr ⟨b, off, h1, Nat.lt_of_lt_of_le (cell_lt (h3 0 (List.length_pos_iff.2 hz))) hB, h3⟩

/-- the indents' cells behind new blocks -/
theorem ints_later {w w1 : World} {ao : Option Addr} {n : Nat} (h : ∀ x, ao = some x → ∀ k, k < n → ∃ v, w.cell? (x.add k) = some v ∧ ∃ z, v = Value.int .i64 z) (hb : Below w.heap.size w w1) :
    ∀ x, ao = some x → ∀ k, k < n → ∃ v, w1.cell? (x.add k) = some v ∧ ∃ z, v = Value.int .i64 z := by
  intro x hx k hk
  obtain ⟨v, h1, h2⟩ := h x hx k hk
  exact ⟨v, (hb.cell (p := x.add k) (cell_lt' h1)).trans h1, h2⟩

set_option maxHeartbeats 2000000 in
set_option maxRecDepth 100000 in
theorem main11 (a0 : Option Addr) (n0 c0 : Nat) (fd si kc : Int) (ka : Bool) (ao : Option Addr) (zs : List Int) (cap : Nat) (i : Int) (w : World) (hm0 : n0 ≤ maxLen) (hm : zs.length ≤ maxLen)
    (hnil0 : a0 = none → n0 = 0) (hcell0 : ∀ x, a0 = some x → ∀ k, k < n0 → ∃ v, w.cell? (x.add k) = some v ∧ ∃ z, v = Value.int .i64 z)
    (hnil : ao = none → zs = []) (hcell : ∀ x, ao = some x → ∀ k, k < zs.length → w.cell? (x.add k) = some (.int .u8 (zs.getD k 0))) :
    Calls Trym.prog 11 #[.slice a0 n0 c0, .int .i64 fd, .int .i64 si, .int .i64 kc, .bool ka, .slice ao zs.length cap, .int .i64 i] w fun e w' => e = .returned (.bool true) ∧ Below w.heap.size w w' := by
  have h33 := bytes33 fd si kc ka i a0 ao n0 c0 zs.length cap w hm0 hm
  have q23 : ∀ (w : World) (a : Option Addr) (n c n' c' : Nat), (binOp .neq 23 (.slice a n c) (.slice none n' c')).run Trym.prog w = .ok (.bool (!a.isNone)) w := fun w a n c n' c' => run_neq_slice_nil_any w _ _ a n c n' c' Trym.underlying23
  have HN : Hid (ao = none → zs = []) := hnil
  have HC : Hid (∀ x, ao = some x → ∀ k, k < zs.length → w.cell? (x.add k) = some (.int .u8 (zs.getD k 0))) := hcell
  have HN0 : Hid (a0 = none → n0 = 0) := hnil0
  have HC0 : Hid (∀ x, a0 = some x → ∀ k, k < n0 → ∃ v, w.cell? (x.add k) = some v ∧ ∃ z, v = Value.int .i64 z) := hcell0
  have HM : Hid (zs.length ≤ maxLen) := hm
  unfold maxLen at hm hm0
  clear hnil hcell hnil0 hcell0
  by_cases hg : ¬ (zs.length ≤ 1048576 ∧ n0 ≤ 131072 ∧ zs.length + 8 * n0 ≤ 1048576 ∧ 0 ≤ i ∧ i ≤ zs.length)
  · go_enter Trym.func11, Trym.ntmps11
    go_upto_if 51 with (go_at_call 33; refine h33.mono ?_; rintro e wx ⟨r, rfl, hwx⟩; have hwx := hwx.symm; subst hwx)
    all_goals first | (go_ret; exact ⟨rfl, Below.refl _ _⟩) | (exfalso; omega)
  have hz' : zs.length ≤ 1048576 := by omega
  have hn' : n0 ≤ 131072 := by omega
  have hs' : zs.length + 8 * n0 ≤ 1048576 := by omega
  have hg1 : 0 ≤ i := by omega
  have hg2 : i ≤ zs.length := by omega
  clear hg
  obtain ⟨m, rfl⟩ := Int.eq_ofNat_of_zero_le hg1
  obtain ⟨i0, hi, hz0, hz1, hz2⟩ := info_parts Trym.info5
  go_enter Trym.func11, Trym.ntmps11
  go_upto_if 51 with (go_at_call 33; refine h33.mono ?_; rintro e wx ⟨r, rfl, hwx⟩; have hwx := hwx.symm; subst hwx)
  · go_ret
    exact ⟨rfl, Below.refl _ _⟩
  go_cut [5] (fun s5 wc => ∃ a cap', s5 = .slice a zs.length cap' ∧ zs.length ≤ cap' ∧ Ln wc a zs ∧ Below w.heap.size w wc)
  case first =>
    cases ao with
    | none =>
      have HL : Hid (Ln w none zs) := Or.inl (HN.out rfl)
      have hlc : Hid (zs.length ≤ cap) := by rw [HN.out rfl]; exact Nat.zero_le _
      clear HN HC
      go_wp2
      go_meet
      case rel => exact ⟨none, _, rfl, hlc, HL.out, Below.refl _ _⟩
    | some x =>
      have HC' : Hid (∀ k, k < zs.length → w.cell? (x.add k) = some (.int .u8 (zs.getD k 0))) := HC.out x rfl
      clear HN HC
      go_wp2_with (first
        | (at_make; refine wpList_make_full _ rfl (.tmp 53) (.tmp 53) 23 rfl w.heap.size 5 i0 (.int .u8 0) 1 Trym.underlying23 hi hz0 hz1 .i64 .i64 _ _ zs.length rfl rfl rfl rfl (by rw [hz2]; omega) HM.out (Nat.le_refl _) ?_; intro w1 hown hgrow; have hb1 : Below w.heap.size w w1 := (Below.refl _ _).grown hgrow (Nat.le_refl _) (fun k hk => by cases hk); have HO : Hid (w1.ownsRow w.heap.size 5 1 (.slice (some ⟨w.heap.size, 0, none⟩) zs.length zs.length) zs.length _) := hown; clear hown hgrow)
        | (with_reducible (show wpList _ _ _ (Oper.mk (some 57) _ _ _ _ _ :: _) _ _); (refine wpList_copy_splice rfl (.tmp 55) (.tmp 56) 23 23 rfl 5 Trym.underlying23 (by rw [hi]; simp [hz1]) _ _ _ _ _ _ rfl rfl w.heap.size 0 _ 5 (made_block HO.out).1 (u8s zs) (by rw [u8s_length]; exact (Nat.min_self _).symm) (fun _ => ⟨rfl, x, rfl, src_cells (src_later HC'.out hb1)⟩) (by rw [(made_block HO.out).2, u8s_length]; omega) (u8s_one zs) w.heap.size w hb1 (Nat.le_refl _) ?_; intro w2 hb2 hbel2)))
      go_meet
      case rel => exact ⟨_, _, rfl, Nat.le_refl _, copied hb2 (made_block HO.out).2, hbel2⟩
  case rest =>
    obtain ⟨a, cap', rfl, hcap, hln, hbel⟩ := hcut
    clear HN HC
    have hcl := clone14 a0 n0 c0 wc hn' HN0.out (ints_later HC0.out hbel)
    go_upto_region 15 with (first
      | (go_at_call 14; refine hcl.mono ?_; rintro e w2 hP; obtain ⟨v, rfl, hb2, ho2⟩ := hP; obtain ⟨av, cv, rfl⟩ := ho2.slice; have hl2 := (Lb.of_ln hln (Nat.le_refl _)).below hb2)
      | (go_at_call 16; refine (scan16 _ _ _ _ _ _ _ _ _).mono ?_; rintro e w3 ⟨rfl, hb3⟩; have hB3 : wc.heap.size ≤ w3.heap.size := Nat.le_trans hb2.size hb3.size; have ho3 := ho2.below hb3; have hl3 := hl2.below (hb3.mono hb2.size))
      | (go_at_call 15; refine (zzblock15 wc.heap.size a zs _ m n0 _ fd si kc ka w3 hB3 ho3 hl3 hz' hcap (by omega) hn').mono ?_; rintro e w4 hP; obtain ⟨r, st', ind', fd', si', kc', ka', rfl, hb4, ⟨ai, ni, ci, rfl⟩, hend⟩ := hP))
    have hbw4 : Below w.heap.size w w4 := hbel.trans ((hb2.mono hbel.size).trans ((hb3.mono (Nat.le_trans hbel.size hb2.size)).trans (hb4.mono hbel.size)))
    have hln4 := (hl3.below hb4).ln
    clear hl3 hl2 ho3 ho2 hcl h33
    rcases hend with ⟨rfl, hst⟩ | ⟨E, rfl, hE1, hE2, hE3⟩
    · rcases hst with rfl | rfl | rfl
      all_goals
        go_wp2
        go_ret
        exact ⟨ret_bool (by simp), hbw4.alloc hbw4.size _⟩
    · rcases hln4 with rfl | ⟨b, off, rfl, hc⟩
      · simp at hE2; omega
      have hblt := cell_lt (hc 0 (by omega))
      have hall : ∀ k, k < zs.length → ∀ o, (w4.alloc o).cell? ⟨b, off + k, none⟩ = some (.int .u8 (zs.getD k 0)) := fun k hk o => (((Below.refl _ _).alloc (Nat.le_refl _) o).cell (p := ⟨b, off + k, none⟩) hblt).trans (hc k hk)
      clear hc
      rcases hE3 with ⟨rfl, hlt, h58, hbe⟩ | ⟨rfl, h34⟩ | ⟨rfl, h39⟩ | ⟨rfl, rfl, hfl⟩
      · have hcE := hall E hlt
        simp only [h58] at hcE
        by_cases hl1 : E + 1 = zs.length
        · have hmm : ((E : Int) + 1 == (zs.length : Int)) = true := by simp; omega
          clear hall h58 hbe hl1
          go_wp2
          go_ret
          exact ⟨ret_bool (by simp), hbw4.alloc hbw4.size _⟩
        · have hmm : ((E : Int) + 1 == (zs.length : Int)) = false := by simp; omega
          have hlt1 : E + 1 < zs.length := by omega
          have hcF := hall (E + 1) hlt1
          have hbl : blB (zs.getD (E + 1) 0) = true := by
            unfold beB at hbe
            rw [decide_eq_false (by omega)] at hbe
            simpa using hbe
          obtain ⟨d, HD⟩ : ∃ d, Hid (zs.getD (E + 1) 0 = d) := ⟨_, rfl⟩
          simp only [HD.out] at hcF
          rw [HD.out] at hbl
          clear hall h58 hbe hl1
          go_wp2_with (go_at_call 18; refine (blank18 _ _).mono ?_; rintro e wx ⟨rfl, hwx⟩; have hwx := hwx.symm; subst hwx)
          go_ret
          exact ⟨ret_bool (by simp), hbw4.alloc hbw4.size _⟩
      · obtain ⟨F, rfl⟩ : ∃ F, E = F + 1 := ⟨E - 1, by omega⟩
        have hcE := hall F (by omega)
        simp only [Nat.add_sub_cancel] at h34
        simp only [h34] at hcE
        clear hall h34
        go_wp2
        go_ret
        exact ⟨ret_bool (by simp), hbw4.alloc hbw4.size _⟩
      · obtain ⟨F, rfl⟩ : ∃ F, E = F + 1 := ⟨E - 1, by omega⟩
        have hcE := hall F (by omega)
        simp only [Nat.add_sub_cancel] at h39
        simp only [h39] at hcE
        clear hall h39
        go_wp2
        go_ret
        exact ⟨ret_bool (by simp), hbw4.alloc hbw4.size _⟩
      · obtain ⟨F, rfl⟩ : ∃ F, E = F + 1 := ⟨E - 1, by omega⟩
        have hcE := hall F (by omega)
        simp only [Nat.add_sub_cancel] at hfl
        rcases hfl with hfl | hfl
        all_goals
          simp only [hfl] at hcE
          clear hall hfl
          go_wp2
          go_ret
          exact ⟨ret_bool (by simp), hbw4.alloc hbw4.size _⟩
end Go.Proofs.Qxb6000713aMods
