import Derived.Test.Qxb6003017aModsWb
namespace Go.Proofs.Qxb6003017aMods
open Go.RowKit

def SomeBool (w : World) (e : Ending) (w' : World) : Prop := ∃ r : Bool, e = .returned (.bool r) ∧ w' = w

set_option maxHeartbeats 400000 in
theorem bytes10 (x y : ByteArray) (w : World) (hx : x.size ≤ maxLen) (hy : y.size ≤ maxLen) : Calls Trym.prog 10 #[.string x, .string y] w (SomeBool w) := by
  unfold maxLen at hx hy
  go_enter Trym.func10, Trym.ntmps10
  go_wp2
  all_goals go_ret
  all_goals exact ⟨_, rfl, rfl⟩

set_option maxHeartbeats 400000 in
theorem zz8 (s : ByteArray) (V C : List Int) (w : World) (hL : bl s = textOf V C) (hV : V.length ≤ 65536) (hC : ∀ c ∈ C, c ≠ 10) (hs : s.size ≤ 4194304) :
    Calls Trym.prog 8 #[.string s, .int .i64 0] w (Post19 w.heap.size V (s.size - 1) w) := by
  have h := conf19 s V C w hL hV hC hs
  clear hL hC
  go_enter Trym.func8, Trym.ntmps8
  go_wp2_with (go_at_call 19; refine h.mono ?_; rintro e w1 ⟨rfl, hb⟩)
  go_ret3
  exact ⟨rfl, hb⟩

theorem esc_snoc (X : List Int) (v : Int) : esc (X ++ [v]) = esc X ++ esc1 v := by
  induction X with
  | nil => simp [esc]
  | cons c X ih => rw [List.cons_append, esc, ih, esc, List.append_assoc]
theorem esc1_le (v : Int) : (esc1 v).length ≤ 2 := by
  unfold esc1
  split
  · simp
  · split
    · simp
    · split <;> simp
theorem esc_le (X : List Int) : (esc X).length ≤ 2 * X.length := by
  induction X with
  | nil => simp [esc]
  | cons c X ih =>
    have := esc1_le c
    rw [esc, List.length_append, List.length_cons]
    omega
theorem take_snoc (L : List Int) (k : Nat) (h : k < L.length) : L.take (k + 1) = L.take k ++ [L.getD k 0] := by
  rw [List.take_succ_eq_append_getElem h, List.getD_eq_getElem?_getD, List.getElem?_eq_getElem h]
  rfl
theorem esc_mem {X : List Int} (h : ∀ z ∈ X, 0 ≤ z ∧ z ≤ 255) : ∀ z ∈ esc X, 0 ≤ z ∧ z ≤ 255 := by
  induction X with
  | nil => intro z hz; cases hz
  | cons c X ih =>
    intro z hz
    rw [esc, List.mem_append] at hz
    rcases hz with hz | hz
    · have hc := h c (List.mem_cons_self ..)
      unfold esc1 at hz
      split at hz
      · simp at hz; omega
      · split at hz
        · simp at hz; omega
        · split at hz
          · simp at hz; omega
          · simp at hz; omega
    · exact ih (fun d hd => h d (List.mem_cons_of_mem _ hd)) z hz
theorem text_mem (v cm : ByteArray) : ∀ z ∈ textOf (bl v) (bl cm), 0 ≤ z ∧ z ≤ 255 := by
  intro z hz
  simp only [textOf, tailC, List.mem_cons, List.mem_append] at hz
  rcases hz with rfl | rfl | hz | rfl | rfl | rfl | hz | rfl | rfl | hz
  · omega
  · omega
  · exact esc_mem (bl_mem v) z hz
  · omega
  · omega
  · omega
  · exact bl_mem cm z hz
  · omega
  · omega
  · cases hz
theorem str_eq (v : ByteArray) : ((strOfNums (bl v)).toList == v.toList) = true := by rw [nums_bl]; simp

set_option maxHeartbeats 2000000 in
set_option maxRecDepth 100000 in
theorem main4 (v cm : ByteArray) (w : World) (hv : v.size ≤ maxLen) (hcm : cm.size ≤ maxLen) :
    Calls Trym.prog 4 #[.string v, .string cm] w fun e w' => e = .returned (.bool true) ∧ Below w.heap.size w w' := by
  have h10 := bytes10 v cm w hv hcm
  unfold maxLen at hv hcm
  by_cases hz : ¬ (v.size ≤ 65536 ∧ cm.size ≤ 65536)
  · go_enter Trym.func4, Trym.ntmps4
    go_upto_region 5 with (go_at_call 10; refine h10.mono ?_; rintro e wx ⟨r, rfl, hwx⟩; have hwx := hwx.symm; subst hwx)
    all_goals first | (go_ret; exact ⟨rfl, Below.refl _ _⟩) | (exfalso; omega)
  have hv' : v.size ≤ 65536 := by omega
  have hc' : cm.size ≤ 65536 := by omega
  clear hz
  have hlv := bl_length v
  have hlc := bl_length cm
  obtain ⟨i0, hi, hz0, hz1, hz2⟩ := info_parts Trym.info5
  go_enter Trym.func4, Trym.ntmps4
  go_upto_region 5 with (go_at_call 10; refine h10.mono ?_; rintro e wx ⟨r, rfl, hwx⟩; have hwx := hwx.symm; subst hwx)
  · go_ret
    exact ⟨rfl, Below.refl _ _⟩
  clear h10
  go_wp2
  go_loop [5] (fun t => ∃ k : Nat, k ≤ cm.size ∧ t = .int .i64 k ∧ Hid (∀ j, j < k → (bl cm).getD j 0 ≠ 10)) (fun t => cm.size - (intOf t).toNat)
  case atStart => exact ⟨0, Nat.zero_le _, rfl, fun j h => by omega⟩
  case round =>
    obtain ⟨k, hk, rfl, HK⟩ := hrel
    by_cases hlt : k < cm.size
    · have hck := bl_at cm k hlt
      obtain ⟨c, HC⟩ : ∃ c, Hid ((bl cm).getD k 0 = c) := ⟨_, rfl⟩
      rw [HC.out] at hck
      by_cases hc10 : c = 10
      · subst hc10
        clear HK
        go_wp2
        go_ret
        exact ⟨rfl, Below.refl _ _⟩
      · have n10 : (c == 10) = false := by simpa using hc10
        have HK1 : Hid (∀ j, j < k + 1 → (bl cm).getD j 0 ≠ 10) := fun j hj => by
          by_cases e : j = k
          · rw [e, HC.out]; exact hc10
          · exact HK.out j (by omega)
        clear HK hc10
        go_wp2
        go_round
        case rel => exact ⟨k + 1, by omega, by go_num, HK1⟩
        case measure => simp [intOf]; omega
    · have HCm : Hid (∀ c ∈ bl cm, c ≠ 10) := fun c hc => by
        obtain ⟨j, hj, rfl⟩ := List.mem_iff_getElem.1 hc
        have := HK.out j (by omega)
        rwa [List.getD_eq_getElem?_getD, List.getElem?_eq_getElem hj] at this
      clear HK
      go_wp2_with (first
        | (at_make; refine wpList_make_own _ rfl (.const (.int .i64 0)) (.tmp 41) 26 rfl w.heap.size 5 i0 (.int .u8 0) 1 Trym.underlying26 hi hz0 hz1 .i64 .i64 _ (2 * v.size + cm.size + 8) rfl rfl (by omega) (by rw [hz2]; omega) (by unfold maxLen; omega) (Nat.le_refl _) ?_; intro w1 hown hgrow; have hb1 : Below w.heap.size w w1 := (Below.refl _ _).grown hgrow (Nat.le_refl _) (fun k hk => by cases hk); have HO : Hid (w1.ownsRow w.heap.size 5 1 (.slice (some ⟨w.heap.size, 0, none⟩) 0 (2 * v.size + cm.size + 8)) ([] : List Int).length (u8s [])) := hown; have hB1 : w.heap.size ≤ w1.heap.size := hb1.size; clear hown hgrow)
        | (at_builtin; refine wpList_append_own _ rfl (.tmp 43) (.tmp 44) 26 rfl w.heap.size 5 i0 (.int .u8 0) 1 1 Trym.underlying26 hi hz0 hz1 hz2 rfl (by decide) _ ([] : List Int).length (u8s []) rfl (HO.out.alloc _) ⟨w1.heap.size, 0, none⟩ 2 2 (u8s [32, 34]) rfl rfl (new_cells _ [32, 34] _) (u8s_one _) (by unfold maxLen; simp) (by simp) (by simp; omega) ?_; intro v' w3 hown' hgrow _; have hst := app_step (Y := [32, 34]) HO.out hown' hgrow hb1 hB1; clear hown' hgrow))
      have HS1 : Hid (OB w.heap.size w3 v' [32, 34]) := hst.1
      have hb3 := hst.2
      clear hst HO hb1
      go_loopw [6, 7] (fun b t wr => ∃ (q : Nat) (Z : List Int), q ≤ v.size ∧ t = .int .i64 q ∧ Hid (Z = [32, 34] ++ esc ((bl v).take q)) ∧ Hid (OB w.heap.size wr b Z) ∧ Below w.heap.size w wr) (fun _ t _ => v.size - (intOf t).toNat)
      case atStart => exact ⟨0, [32, 34], Nat.zero_le _, rfl, rfl, HS1, hb3⟩
      case round =>
        obtain ⟨q, Z, hq, rfl, HZ, HOb, hbr⟩ := hrel
        clear HS1 hb3
        obtain ⟨av, cv, hve, ho⟩ := HOb.out
        subst hve
        have HOw : Hid (wr.ownsRow w.heap.size 5 1 (.slice av Z.length cv) Z.length (u8s Z)) := ho
        have hZl : Z.length ≤ 131074 ∧ 2 ≤ Z.length := by
          have h1 := esc_le ((bl v).take q)
          rw [List.length_take] at h1
          rw [HZ.out, List.length_append]
          simp only [List.length_cons, List.length_nil]
          omega
        obtain ⟨hZl1, hZl2⟩ := hZl
        clear ho HOb
        have hBr : w.heap.size ≤ wr.heap.size := hbr.size
        by_cases hqv : q < v.size
        · have hck := bl_at v q hqv
          obtain ⟨c, HC⟩ : ∃ c, Hid ((bl v).getD q 0 = c) := ⟨_, rfl⟩
          rw [HC.out] at hck
          rcases (show c = 92 ∨ c = 34 ∨ c = 10 ∨ c = 8 ∨ (c ≠ 92 ∧ c ≠ 34 ∧ c ≠ 10 ∧ c ≠ 8) by omega) with rfl | rfl | rfl | rfl | ⟨g1, g2, g3, g4⟩
          · have HN : Hid (Z ++ [92, 92] = [32, 34] ++ esc ((bl v).take (q + 1))) := hidE (by rw [take_snoc _ _ (by omega), HC.out, esc_snoc, HZ.out, List.append_assoc]; rfl)
            go_wp2_with (at_builtin; refine wpList_append_own _ rfl (.tmp 61) (.tmp 63) 26 rfl w.heap.size 5 i0 (.int .u8 0) 1 1 Trym.underlying26 hi hz0 hz1 hz2 rfl (by decide) _ Z.length (u8s Z) rfl (HOw.out.alloc _) ⟨wr.heap.size, 0, none⟩ 2 2 (u8s [92, 92]) rfl rfl (new_cells _ [92, 92] _) (u8s_one _) (by unfold maxLen; omega) (by omega) (by simp; omega) ?_; intro v' w3 hown' hgrow _; have hst2 := app_step (Y := [92, 92]) HOw.out hown' hgrow hbr hBr; clear hown' hgrow)
            go_roundw
            case rel => exact ⟨q + 1, Z ++ [92, 92], by omega, by go_num, HN, hst2.1, hst2.2⟩
            case measure => simp [intOf]; omega
          · have HN : Hid (Z ++ [92, 34] = [32, 34] ++ esc ((bl v).take (q + 1))) := hidE (by rw [take_snoc _ _ (by omega), HC.out, esc_snoc, HZ.out, List.append_assoc]; rfl)
            go_wp2_with (at_builtin; refine wpList_append_own _ rfl (.tmp 61) (.tmp 63) 26 rfl w.heap.size 5 i0 (.int .u8 0) 1 1 Trym.underlying26 hi hz0 hz1 hz2 rfl (by decide) _ Z.length (u8s Z) rfl (HOw.out.alloc _) ⟨wr.heap.size, 0, none⟩ 2 2 (u8s [92, 34]) rfl rfl (new_cells _ [92, 34] _) (u8s_one _) (by unfold maxLen; omega) (by omega) (by simp; omega) ?_; intro v' w3 hown' hgrow _; have hst2 := app_step (Y := [92, 34]) HOw.out hown' hgrow hbr hBr; clear hown' hgrow)
            go_roundw
            case rel => exact ⟨q + 1, Z ++ [92, 34], by omega, by go_num, HN, hst2.1, hst2.2⟩
            case measure => simp [intOf]; omega
          · have HN : Hid (Z ++ [92, 110] = [32, 34] ++ esc ((bl v).take (q + 1))) := hidE (by rw [take_snoc _ _ (by omega), HC.out, esc_snoc, HZ.out, List.append_assoc]; rfl)
            go_wp2_with (at_builtin; refine wpList_append_own _ rfl (.tmp 67) (.tmp 68) 26 rfl w.heap.size 5 i0 (.int .u8 0) 1 1 Trym.underlying26 hi hz0 hz1 hz2 rfl (by decide) _ Z.length (u8s Z) rfl (HOw.out.alloc _) ⟨wr.heap.size, 0, none⟩ 2 2 (u8s [92, 110]) rfl rfl (new_cells _ [92, 110] _) (u8s_one _) (by unfold maxLen; omega) (by omega) (by simp; omega) ?_; intro v' w3 hown' hgrow _; have hst2 := app_step (Y := [92, 110]) HOw.out hown' hgrow hbr hBr; clear hown' hgrow)
            go_roundw
            case rel => exact ⟨q + 1, Z ++ [92, 110], by omega, by go_num, HN, hst2.1, hst2.2⟩
            case measure => simp [intOf]; omega
          · have HN : Hid (Z ++ [92, 98] = [32, 34] ++ esc ((bl v).take (q + 1))) := hidE (by rw [take_snoc _ _ (by omega), HC.out, esc_snoc, HZ.out, List.append_assoc]; rfl)
            go_wp2_with (at_builtin; refine wpList_append_own _ rfl (.tmp 72) (.tmp 73) 26 rfl w.heap.size 5 i0 (.int .u8 0) 1 1 Trym.underlying26 hi hz0 hz1 hz2 rfl (by decide) _ Z.length (u8s Z) rfl (HOw.out.alloc _) ⟨wr.heap.size, 0, none⟩ 2 2 (u8s [92, 98]) rfl rfl (new_cells _ [92, 98] _) (u8s_one _) (by unfold maxLen; omega) (by omega) (by simp; omega) ?_; intro v' w3 hown' hgrow _; have hst2 := app_step (Y := [92, 98]) HOw.out hown' hgrow hbr hBr; clear hown' hgrow)
            go_roundw
            case rel => exact ⟨q + 1, Z ++ [92, 98], by omega, by go_num, HN, hst2.1, hst2.2⟩
            case measure => simp [intOf]; omega
          · have n1 : (c == 92) = false := by simpa using g1
            have n2 : (c == 34) = false := by simpa using g2
            have n3 : (c == 10) = false := by simpa using g3
            have n4 : (c == 8) = false := by simpa using g4
            have HN : Hid (Z ++ [c] = [32, 34] ++ esc ((bl v).take (q + 1))) := hidE (by rw [take_snoc _ _ (by omega), HC.out, esc_snoc, HZ.out, List.append_assoc]; simp [esc1, g1, g2, g3, g4])
            clear g1 g2 g3 g4
            go_wp2_with (at_builtin; refine wpList_append_own _ rfl (.tmp 75) (.tmp 77) 26 rfl w.heap.size 5 i0 (.int .u8 0) 1 1 Trym.underlying26 hi hz0 hz1 hz2 rfl (by decide) _ Z.length (u8s Z) rfl (HOw.out.alloc _) ⟨wr.heap.size, 0, none⟩ 1 1 (u8s [c]) rfl rfl (new_cells _ [c] _) (u8s_one _) (by unfold maxLen; omega) (by omega) (by simp; omega) ?_; intro v' w3 hown' hgrow _; have hst2 := app_step (Y := [c]) HOw.out hown' hgrow hbr hBr; clear hown' hgrow)
            go_roundw
            case rel => exact ⟨q + 1, Z ++ [c], by omega, by go_num, HN, hst2.1, hst2.2⟩
            case measure => simp [intOf]; omega
        · have hqe : q = v.size := by omega
          have HZ2 : Hid (Z = [32, 34] ++ esc (bl v)) := hidE (by rw [HZ.out, hqe, List.take_of_length_le (by omega)])
          clear HZ hqe
          obtain ⟨ZA, HZA⟩ : ∃ ZA : List Int, Hid (Z ++ [34, 32, 35] = ZA) := ⟨_, hidE rfl⟩
          obtain ⟨ZB, HZB⟩ : ∃ ZB : List Int, Hid (ZA ++ bl cm = ZB) := ⟨_, hidE rfl⟩
          obtain ⟨T, HT⟩ : ∃ T : List Int, Hid (ZB ++ [10, 122] = T) := ⟨_, hidE rfl⟩
          have hT : T = textOf (bl v) (bl cm) := by
            rw [← HT.out, ← HZB.out, ← HZA.out, HZ2.out]
            simp [textOf, tailC]
          have hlA : ZA.length = Z.length + 3 := by rw [← HZA.out]; simp
          have hlB : ZB.length = Z.length + 3 + cm.size := by rw [← HZB.out, List.length_append, hlA, hlc]
          have hlT : T.length = Z.length + 5 + cm.size := by rw [← HT.out, List.length_append, hlB]; simp; omega
          have hlA1 : ZA.length ≤ 200000 := by omega
          have hlA2 : 0 < ZA.length := by omega
          have hlB1 : ZB.length ≤ 300000 := by omega
          have hlT1 : T.length ≤ 400000 := by omega
          have hlT2 : 2 ≤ T.length := by omega
          have hbT : bl (strOfNums T) = T := bl_nums T (by rw [hT]; exact text_mem v cm)
          have hsT : (strOfNums T).size = T.length := by rw [← bl_length, hbT]
          have h8 := fun wx => zz8 (strOfNums T) (bl v) (bl cm) wx (by rw [hbT]; exact hT) (by omega) HCm.out (by omega)
          have HsT : Hid ((strOfNums T).size = T.length) := hsT
          have hse := str_eq v
          obtain ⟨S, HSe⟩ : ∃ S, Hid (strOfNums T = S) := ⟨_, rfl⟩
          have hS1 : S.size ≤ 400000 := by rw [← HSe.out]; omega
          have hS2 : 2 ≤ S.size := by rw [← HSe.out]; omega
          rw [HSe.out] at h8
          clear hT hlA hlB hlT hbT hsT HZ2 HCm hlv hlc
          go_wp2_with (first
            | (at_builtin; refine wpList_append_own _ rfl (.tmp 79) (.tmp 80) 26 rfl w.heap.size 5 i0 (.int .u8 0) 1 1 Trym.underlying26 hi hz0 hz1 hz2 rfl (by decide) _ Z.length (u8s Z) rfl (HOw.out.alloc _) ⟨wr.heap.size, 0, none⟩ 3 3 (u8s [34, 32, 35]) rfl rfl (new_cells _ [34, 32, 35] _) (u8s_one _) (by unfold maxLen; omega) (by omega) (by simp; omega) ?_; intro vA wA hown' hgrow _; have hstA := app_step (Y := [34, 32, 35]) HOw.out hown' hgrow hbr hBr; clear hown' hgrow; obtain ⟨hA1, hbA⟩ := hstA; rw [HZA.out] at hA1; obtain ⟨aA, cA, rfl, hoA⟩ := hA1; have HOA : Hid (wA.ownsRow w.heap.size 5 1 (.slice aA ZA.length cA) ZA.length (u8s ZA)) := hoA; have hBA : w.heap.size ≤ wA.heap.size := hbA.size; clear hoA)
            | (at_builtin; refine wpList_append_str _ rfl (.tmp 82) (.tmp 83) rfl w.heap.size ZA.length _ (u8s ZA) cm rfl rfl HOA.out hlA2 (u8s_one _) (by omega) hBA ?_; intro vB wB hownB hgB; have hstB := str_step HOA.out hownB hgB hbA hBA; clear hownB hgB; obtain ⟨hB1, hbB⟩ := hstB; rw [HZB.out] at hB1; obtain ⟨aB, cB, rfl, hoB⟩ := hB1; have HOB : Hid (wB.ownsRow w.heap.size 5 1 (.slice aB ZB.length cB) ZB.length (u8s ZB)) := hoB; have hBB : w.heap.size ≤ wB.heap.size := hbB.size; clear hoB)
            | (at_builtin; refine wpList_append_own _ rfl (.tmp 85) (.tmp 86) 26 rfl w.heap.size 5 i0 (.int .u8 0) 1 1 Trym.underlying26 hi hz0 hz1 hz2 rfl (by decide) _ ZB.length (u8s ZB) rfl (HOB.out.alloc _) ⟨wB.heap.size, 0, none⟩ 2 2 (u8s [10, 122]) rfl rfl (new_cells _ [10, 122] _) (u8s_one _) (by unfold maxLen; omega) (by omega) (by simp; omega) ?_; intro vC wC hown' hgrow _; have hstC := app_step (Y := [10, 122]) HOB.out hown' hgrow hbB hBB; clear hown' hgrow; obtain ⟨hC1, hbC⟩ := hstC; rw [HT.out] at hC1; obtain ⟨aC, cC, rfl, hoC⟩ := hC1; have kc := OB.conv hoC; rw [HSe.out] at kc; clear hoC)
            | (go_at_call 8; refine (h8 _).mono ?_; rintro e wD ⟨rfl, hbD⟩))
          go_ret
          exact ⟨ret_bool (by rw [beq_iff_eq]; omega), hbC.trans (hbD.mono hbC.size)⟩
end Go.Proofs.Qxb6003017aMods
