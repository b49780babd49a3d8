import Derived.Test.Qxb6000713aModsWg
namespace Go.Proofs.Qxb6000713aMods
open Go.RowKit

/-- what the second loop's round needs of the byte's worth -/
theorem bv_cases (c : Int) : (c = 91 ∧ bv c = 1) ∨ (c = 123 ∧ bv c = 1) ∨ (c = 93 ∧ bv c = -1) ∨ (c = 125 ∧ bv c = -1) ∨ ((c == 91) = false ∧ (c == 123) = false ∧ (c == 93) = false ∧ (c == 125) = false ∧ bv c = 0) := by
  unfold bv
  by_cases h1 : c = 91
  · simp [h1]
  by_cases h2 : c = 123
  · simp [h2]
  by_cases h3 : c = 93
  · simp [h3]
  by_cases h4 : c = 125
  · simp [h4]
  simp [h1, h2, h3, h4]

theorem oneB_set (c : Int) (h : oneB ⟨#[91, 93, 123, 125, 44, 63, 58]⟩ c = true) : okB c := by
  unfold oneB at h
  simp at h
  unfold okB
  omega

set_option maxHeartbeats 1000000 in
set_option maxRecDepth 100000 in
theorem main6 (fd i : Int) (ao : Option Addr) (zs : List Int) (cap : Nat) (w : World) (hm : zs.length ≤ maxLen) (hnil : ao = none → zs = [])
    (hcell : ∀ x, ao = some x → ∀ k, k < zs.length → w.cell? (x.add k) = some (.int .u8 (zs.getD k 0))) :
    Calls Trym.prog 6 #[.int .i64 fd, .slice ao zs.length cap, .int .i64 i] w fun e w' => e = .returned (.bool true) ∧ Below w.heap.size w w' := by
  by_cases hz : ¬ zs.length ≤ 1048576
  · have hd : decide (zs.length ≤ 1048576) = false := decide_eq_false hz
    have h25 := bytes25 fd i ao zs.length cap w hm
    rw [hd] at h25
    go_enter Trym.func6, Trym.ntmps6
    go_wp2_with (go_at_call 25; refine h25.mono ?_; rintro e w' ⟨rfl, rfl⟩)
    go_ret
    exact ⟨rfl, Below.refl _ _⟩
  have hz' : zs.length ≤ 1048576 := by omega
  clear hz
  have hd : decide (zs.length ≤ 1048576) = true := decide_eq_true hz'
  have h25 := bytes25 fd i ao zs.length cap w hm
  rw [hd] at h25
  clear hd
  have q23 : ∀ (w : World) (a : Option Addr) (n c n' c' : Nat), (binOp .neq 23 (.slice a n c) (.slice none n' c')).run Trym.prog w = .ok (.bool (!a.isNone)) w := fun w a n c n' c' => run_neq_slice_nil_any w _ _ a n c n' c' Trym.underlying23
  by_cases hg : ¬ (0 ≤ i ∧ i ≤ zs.length ∧ 1 ≤ fd ∧ fd ≤ 1073741824)
  · go_enter Trym.func6, Trym.ntmps6
    go_upto_if 40 with (go_at_call 25; refine h25.mono ?_; rintro e w' ⟨rfl, rfl⟩)
    all_goals first | (go_ret; exact ⟨rfl, Below.refl _ _⟩) | (exfalso; omega)
  have hg1 : 0 ≤ i := by omega
  have hg2 : i ≤ zs.length := by omega
  have hg3 : 1 ≤ fd := by omega
  have hg4 : fd ≤ 1073741824 := by omega
  clear hg
  obtain ⟨m, rfl⟩ := Int.eq_ofNat_of_zero_le hg1
  obtain ⟨i0, hi, hz0, hz1, hz2⟩ := info_parts Trym.info5
  have HN : Hid (ao = none → zs = []) := hnil
  have HC : Hid (∀ x, ao = some x → ∀ k, k < zs.length → w.cell? (x.add k) = some (.int .u8 (zs.getD k 0))) := hcell
  clear hnil hcell
  go_enter Trym.func6, Trym.ntmps6
  go_upto_if 40 with (go_at_call 25; refine h25.mono ?_; rintro e wx ⟨rfl, hwx⟩; have hwx := hwx.symm; subst hwx)
  go_cut [1] (fun s1 wc => ∃ a cap', s1 = .slice a zs.length cap' ∧ Ln wc a zs ∧ Below w.heap.size w wc)
  case first =>
    cases ao with
    | none =>
      have HL : Hid (Ln w none zs) := Or.inl (HN.out rfl)
      clear HN HC
      go_wp2
      go_meet
      case rel => exact ⟨none, _, rfl, HL.out, Below.refl _ _⟩
    | some x =>
      have HC' : Hid (∀ k, k < zs.length → w.cell? (x.add k) = some (.int .u8 (zs.getD k 0))) := HC.out x rfl
      clear HN HC
      go_wp2_with (first
        | (at_make; refine wpList_make_full _ rfl (.tmp 42) (.tmp 42) 23 rfl w.heap.size 5 i0 (.int .u8 0) 1 Trym.underlying23 hi hz0 hz1 .i64 .i64 _ _ zs.length rfl rfl rfl rfl (by rw [hz2]; omega) hm (Nat.le_refl _) ?_; intro w1 hown hgrow; have hb1 : Below w.heap.size w w1 := (Below.refl _ _).grown hgrow (Nat.le_refl _) (fun k hk => by cases hk); have HO : Hid (w1.ownsRow w.heap.size 5 1 (.slice (some ⟨w.heap.size, 0, none⟩) zs.length zs.length) zs.length _) := hown; clear hown hgrow)
        | (with_reducible (show wpList _ _ _ (Oper.mk (some 46) _ _ _ _ _ :: _) _ _); (refine wpList_copy_splice rfl (.tmp 44) (.tmp 45) 23 23 rfl 5 Trym.underlying23 (by rw [hi]; simp [hz1]) _ _ _ _ _ _ rfl rfl w.heap.size 0 _ 5 (made_block HO.out).1 (u8s zs) (by rw [u8s_length]; exact (Nat.min_self _).symm) (fun _ => ⟨rfl, x, rfl, src_cells (src_later HC'.out hb1)⟩) (by rw [(made_block HO.out).2, u8s_length]; omega) (u8s_one zs) w.heap.size w hb1 (Nat.le_refl _) ?_; intro w2 hb2 hbel2)))
      go_meet
      case rel => exact ⟨_, _, rfl, copied hb2 (made_block HO.out).2, hbel2⟩
  case rest =>
    obtain ⟨a, cap', rfl, hln, hbel⟩ := hcut
    clear HN HC
    go_wp2
    go_loop [8] (fun t => ∃ k : Nat, m ≤ k ∧ k ≤ zs.length ∧ t = .int .i64 k ∧ Hid (∀ j, m ≤ j → j < k → okB (zs.getD j 0))) (fun t => zs.length - (intOf t).toNat)
    case atStart => exact ⟨m, Nat.le_refl _, by omega, rfl, fun j h1 h2 => by omega⟩
    case round =>
      obtain ⟨k, hmk, hk, rfl, HK⟩ := hrel
      by_cases hlt : k < zs.length
      · rcases hln with rfl | ⟨b, off, rfl, hc⟩
        · simp at hlt
        have hck := hc k hlt
        clear hc
        obtain ⟨c, HCc⟩ : ∃ c, Hid (zs.getD k 0 = c) := ⟨_, rfl⟩
        rw [HCc.out] at hck
        by_cases hb : blB c = true
        · have HK1 : Hid (∀ j, m ≤ j → j < k + 1 → okB (zs.getD j 0)) := fun j h1 h2 => by
            by_cases e : j = k
            · subst e; rw [HCc.out]; exact .inl hb
            · exact HK.out j h1 (by omega)
          clear HK
          go_wp2_with (go_at_call 18; refine (blank18 _ _).mono ?_; rintro e wx ⟨rfl, hwx⟩; have hwx := hwx.symm; subst hwx)
          go_round
          case rel => exact ⟨k + 1, by omega, by omega, by go_num, HK1⟩
          case measure => simp [intOf]; omega
        · have hb' : blB c = false := by simpa using hb
          clear hb
          by_cases ho : oneB ⟨#[91, 93, 123, 125, 44, 63, 58]⟩ c = true
          · have HK1 : Hid (∀ j, m ≤ j → j < k + 1 → okB (zs.getD j 0)) := fun j h1 h2 => by
              by_cases e : j = k
              · subst e; rw [HCc.out]; exact oneB_set c ho
              · exact HK.out j h1 (by omega)
            clear HK
            go_wp2_with (first | (go_at_call 18; refine (blank18 _ _).mono ?_; rintro e wx ⟨rfl, hwx⟩; have hwx := hwx.symm; subst hwx) | (go_at_call 24; refine (one24 _ _ _ (by decide)).mono ?_; rintro e wx ⟨rfl, hwx⟩; have hwx := hwx.symm; subst hwx))
            go_round
            case rel => exact ⟨k + 1, by omega, by omega, by go_num, HK1⟩
            case measure => simp [intOf]; omega
          · have ho' : oneB ⟨#[91, 93, 123, 125, 44, 63, 58]⟩ c = false := by simpa using ho
            clear ho
            go_wp2_with (first | (go_at_call 18; refine (blank18 _ _).mono ?_; rintro e wx ⟨rfl, hwx⟩; have hwx := hwx.symm; subst hwx) | (go_at_call 24; refine (one24 _ _ _ (by decide)).mono ?_; rintro e wx ⟨rfl, hwx⟩; have hwx := hwx.symm; subst hwx))
            go_ret
            exact ⟨rfl, hbel⟩
      · have hok : ∀ j, m ≤ j → j < zs.length → okB (zs.getD j 0) := fun j h1 h2 => HK.out j h1 (by omega)
        clear HK
        go_upto_region 18 with (first | (go_at_call 16; refine (scan16 _ _ _ _ _ _ _ _ _).mono ?_; rintro e w3 ⟨rfl, hb3⟩) | (go_at_call 22; refine (zzflow22 _ _ _ a zs _ m fd _ _ _ _ (hln.below hb3) hz' (by omega) hg3 hg4 hok).mono ?_; rintro e w4 ⟨r, st', fd', ka', rfl, hb4, hend⟩))
        have hbw4 : Below w.heap.size w w4 := hbel.trans ((hb3.mono hbel.size).trans (hb4.mono (Nat.le_trans hbel.size hb3.size)))
        have hln4 := (hln.below hb3).below hb4
        rcases hend with ⟨E, hE1, hE2, hE3, ⟨rfl, rfl, rfl, rfl, hf1⟩ | ⟨rfl, hlt2, rfl, rfl, hf0⟩⟩
        · clear hE1
          go_wp2
          go_loop [12, 13] (fun n t => ∃ k : Nat, m ≤ k ∧ k ≤ zs.length ∧ t = .int .i64 k ∧ n = .int .i64 (P zs k - P zs m)) (fun _ t => zs.length - (intOf t).toNat)
          case atStart => exact ⟨m, Nat.le_refl _, by omega, rfl, by simp⟩
          case round =>
            obtain ⟨k2, hmk2, hk2, rfl, rfl⟩ := hrel
            have hpb := P_bd zs m (k2 - m) (by omega)
            rw [show m + (k2 - m) = k2 by omega] at hpb
            obtain ⟨hpb1, hpb2⟩ := hpb
            by_cases hlt3 : k2 < zs.length
            · rcases hln4 with rfl | ⟨b, off, rfl, hc⟩
              · have h0 : ([] : List Int).length = 0 := rfl
                omega
              have hck0 := hc k2 (by omega)
              have hblt := cell_lt hck0
              have hck : ∀ o, (w4.alloc o).cell? ⟨b, off + k2, none⟩ = some (.int .u8 (zs.getD k2 0)) := fun o => (((Below.refl _ _).alloc (Nat.le_refl _) o).cell (p := ⟨b, off + k2, none⟩) hblt).trans hck0
              clear hck0
              have hps := P_succ zs k2 (by omega)
              have hnx : k2 + 1 < zs.length → 1 ≤ fd + (P zs (k2 + 1) - P zs m) := fun h => hE3 (k2 + 1) (by omega) h
              clear hc hE3
              obtain ⟨c, HCc⟩ : ∃ c, Hid (zs.getD k2 0 = c) := ⟨_, rfl⟩
              rw [HCc.out] at hps
              simp only [HCc.out] at hck
              obtain ⟨q, HQ⟩ : ∃ q, Hid (P zs k2 - P zs m = q) := ⟨_, rfl⟩
              obtain ⟨q', HQ'⟩ : ∃ q', Hid (P zs (k2 + 1) - P zs m = q') := ⟨_, rfl⟩
              have hqq : q' = q + bv c := by have := HQ.out; have := HQ'.out; omega
              rw [HQ.out] at hpb1 hpb2 ⊢
              rw [HQ'.out] at hnx
              have hq1 : q ≤ 1048576 := by omega
              have hq2 : -1048576 ≤ q := by omega
              clear hps hpb1 hpb2
              rcases bv_cases c with ⟨rfl, hbv⟩ | ⟨rfl, hbv⟩ | ⟨rfl, hbv⟩ | ⟨rfl, hbv⟩ | ⟨h1, h2, h3, h4, hbv⟩
              all_goals
                rw [hbv] at hqq
                have hqq' := hqq
                subst hqq
                clear hqq' hbv
                go_wp2
                all_goals first | (go_round; (case rel => first | exact ⟨k2 + 1, by omega, by omega, by go_num, by have h := HQ'.out; go_num⟩ | (refine ⟨_, _, _, ?_, rfl, rfl, rfl⟩; exact ⟨k2 + 1, by omega, by omega, by go_num, by have h := HQ'.out; go_num⟩)); (case measure => show zs.length - ((k2 : Int) + 1).toNat < zs.length - (k2 : Int).toNat; omega)) | (exfalso; have := hnx (by omega); omega)
            · have hkE : k2 = zs.length := by omega
              subst hkE
              go_wp2
              go_ret
              exact ⟨ret_bool (by simp), hbw4.alloc hbw4.size _⟩
        · have HF : Hid (fd + (P zs E - P zs m) = 0) := hf0
          clear hf0
          go_wp2
          go_loop [12, 13] (fun n t => ∃ k : Nat, m ≤ k ∧ k ≤ E ∧ t = .int .i64 k ∧ n = .int .i64 (P zs k - P zs m)) (fun _ t => E - (intOf t).toNat)
          case atStart => exact ⟨m, Nat.le_refl _, by omega, rfl, by simp⟩
          case round =>
            obtain ⟨k2, hmk2, hk2, rfl, rfl⟩ := hrel
            have hpb := P_bd zs m (k2 - m) (by omega)
            rw [show m + (k2 - m) = k2 by omega] at hpb
            obtain ⟨hpb1, hpb2⟩ := hpb
            by_cases hlt3 : k2 < E
            · rcases hln4 with rfl | ⟨b, off, rfl, hc⟩
              · have h0 : ([] : List Int).length = 0 := rfl
                omega
              have hck0 := hc k2 (by omega)
              have hblt := cell_lt hck0
              have hck : ∀ o, (w4.alloc o).cell? ⟨b, off + k2, none⟩ = some (.int .u8 (zs.getD k2 0)) := fun o => (((Below.refl _ _).alloc (Nat.le_refl _) o).cell (p := ⟨b, off + k2, none⟩) hblt).trans hck0
              clear hck0
              have hps := P_succ zs k2 (by omega)
              have hnx : k2 + 1 < E → 1 ≤ fd + (P zs (k2 + 1) - P zs m) := fun h => hE3 (k2 + 1) (by omega) h
              clear hc hE3
              obtain ⟨c, HCc⟩ : ∃ c, Hid (zs.getD k2 0 = c) := ⟨_, rfl⟩
              rw [HCc.out] at hps
              simp only [HCc.out] at hck
              obtain ⟨q, HQ⟩ : ∃ q, Hid (P zs k2 - P zs m = q) := ⟨_, rfl⟩
              obtain ⟨q', HQ'⟩ : ∃ q', Hid (P zs (k2 + 1) - P zs m = q') := ⟨_, rfl⟩
              have hqq : q' = q + bv c := by have := HQ.out; have := HQ'.out; omega
              rw [HQ.out] at hpb1 hpb2 ⊢
              rw [HQ'.out] at hnx
              have hq1 : q ≤ 1048576 := by omega
              have hq2 : -1048576 ≤ q := by omega
              clear hps hpb1 hpb2
              rcases bv_cases c with ⟨rfl, hbv⟩ | ⟨rfl, hbv⟩ | ⟨rfl, hbv⟩ | ⟨rfl, hbv⟩ | ⟨h1, h2, h3, h4, hbv⟩
              all_goals
                rw [hbv] at hqq
                have hqq' := hqq
                subst hqq
                clear hqq' hbv
                go_wp2
                all_goals first | (go_round; (case rel => first | exact ⟨k2 + 1, by omega, by omega, by go_num, by have h := HQ'.out; go_num⟩ | (refine ⟨_, _, _, ?_, rfl, rfl, rfl⟩; exact ⟨k2 + 1, by omega, by omega, by go_num, by have h := HQ'.out; go_num⟩)); (case measure => show E - ((k2 : Int) + 1).toNat < E - (k2 : Int).toNat; omega)) | (exfalso; have := hnx (by omega); omega)
            · have hkE : k2 = E := by omega
              subst hkE
              have hfb : (fd + (P zs k2 - P zs m) == 0) = true := by rw [HF.out]; rfl
              go_wp2
              go_ret
              exact ⟨ret_bool (by simp), hbw4.alloc hbw4.size _⟩
end Go.Proofs.Qxb6000713aMods
