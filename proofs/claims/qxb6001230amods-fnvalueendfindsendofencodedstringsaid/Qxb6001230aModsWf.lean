import Derived.Test.Qxb6001230aModsWe
namespace Go.Proofs.Qxb6001230aMods
open Go.RowKit

def CloneQ (w : World) (zs : List Int) (e : Ending) (w' : World) : Prop :=
  ∃ a', e = .returned (.slice a' zs.length zs.length) ∧ (a' = none → zs = []) ∧ Below w.heap.size w w' ∧ Ln w' a' zs

set_option maxHeartbeats 400000 in
theorem clone11q (ao : Option Addr) (zs : List Int) (c : Nat) (w : World) (hn : zs.length ≤ 1048576) (hnil : ao = none → zs = []) (hcell : ∀ x, ao = some x → ∀ k, k < zs.length → w.cell? (x.add k) = some (.int .u8 (zs.getD k 0))) :
    Calls Trym.prog 11 #[.slice ao zs.length c] w (CloneQ w zs) := by
  have q22 : ∀ (w : World) (a : Option Addr) (n c n' c' : Nat), (binOp .eql 22 (.slice a n c) (.slice none n' c')).run Trym.prog w = .ok (.bool a.isNone) w := fun w a n c n' c' => Lib.run_eql_slice_nil w _ _ a n c n' c' Trym.underlying22
  obtain ⟨i0, hi, hz0, hz1, hz2⟩ := info_parts Trym.info5
  cases ao with
  | none =>
    have h0 := hnil rfl
    subst h0
    clear hnil hcell
    go_enter Trym.func11, Trym.ntmps11
    go_wp2
    go_ret
    exact ⟨none, rfl, fun _ => rfl, Below.refl _ _, .inl rfl⟩
  | some x =>
    have HX : Hid (∀ k, k < zs.length → w.cell? (x.add k) = some (.int .u8 (zs.getD k 0))) := hcell x rfl
    clear hnil hcell
    go_enter Trym.func11, Trym.ntmps11
    go_wp2_with (at_make; refine wpList_make_full _ rfl (.tmp 8) (.tmp 8) 22 rfl w.heap.size 5 i0 (.int .u8 0) 1 Trym.underlying22 hi hz0 hz1 .i64 .i64 _ _ zs.length rfl rfl rfl rfl (by rw [hz2]; omega) (by unfold maxLen; omega) (Nat.le_refl _) ?_; intro w1 hown hgrow; have hb1 : Below w.heap.size w w1 := (Below.refl _ _).grown hgrow (Nat.le_refl _) (fun k hk => by cases hk); have HO : Hid (Cp w.heap.size w1 zs 0) := Cp.start hown; clear hown hgrow)
    go_loopw [4] (fun t wr => ∃ k : Nat, k ≤ zs.length ∧ t = .int .i64 k ∧ Below w.heap.size w wr ∧ Hid (Cp w.heap.size wr zs k)) (fun t _ => zs.length - (intOf t).toNat)
    case atStart => exact ⟨0, Nat.zero_le _, rfl, hb1, HO⟩
    case round =>
      obtain ⟨k, hk, rfl, hbr, HR⟩ := hrel
      by_cases hlt : k < zs.length
      · obtain ⟨b, off, rfl, hc⟩ := addr_plain (by omega) HX.out
        have hck := hc k hlt
        have hckr := (hbr.cell (p := ⟨b, off + k, none⟩) (cell_lt hck)).trans hck
        obtain ⟨⟨z', hz'⟩, hfz⟩ := HR.out.at k hlt
        have HN := Cp.step hbr HR.out hlt
        obtain ⟨z, HZ⟩ : ∃ z, Hid (zs.getD k 0 = z) := ⟨_, rfl⟩
        rw [HZ.out] at hckr HN
        have HN1 : Hid (Below w.heap.size w (wr.setCell ⟨w.heap.size, k, none⟩ (.int .u8 z))) := HN.1
        have HN2 : Hid (Cp w.heap.size (wr.setCell ⟨w.heap.size, k, none⟩ (.int .u8 z)) zs (k + 1)) := HN.2
        clear hc hck HN
        go_wp2
        go_roundw
        case rel => exact ⟨k + 1, by omega, by go_num, HN1.out, HN2⟩
        case measure => simp [intOf]; omega
      · have hke : k = zs.length := by omega
        have HW : Hid (Ln wr (some ⟨w.heap.size, 0, none⟩) zs) := by have h := HR.out; rw [hke] at h; exact h.done
        clear hke
        go_wp2
        go_ret
        exact ⟨_, rfl, (fun h => by cases h), hbr, HW.out⟩

/-- v owns the bytes Z -/
def OB (B : Nat) (w : World) (v : Value) (Z : List Int) : Prop :=
  ∃ a cap, v = .slice a Z.length cap ∧ w.ownsRow B 5 1 v Z.length (u8s Z)
theorem OB.of {B : Nat} {w : World} {v : Value} {Z : List Int} (h : w.ownsRow B 5 1 v Z.length (u8s Z)) : OB B w v Z := by
  have h' := h
  obtain ⟨_, h2⟩ := h
  rcases h2 with ⟨rfl, h2⟩ | ⟨g, cap, cur, rfl, _⟩
  · exact ⟨none, 0, by rw [h2], h'⟩
  · exact ⟨_, cap, rfl, h'⟩
theorem app_step {B : Nat} {w0 w w3 : World} {v v' : Value} {Z Y : List Int} {o : Obj} (hown : w.ownsRow B 5 1 v Z.length (u8s Z)) (hown' : w3.ownsRow B 5 1 v' (Z.length + Y.length) (u8s Z ++ u8s Y))
    (hg : (w.alloc o).grownBy w3 v.ownBlock) (hb : Below B w0 w) (hB : B ≤ w.heap.size) : OB B w3 v' (Z ++ Y) ∧ Below B w0 w3 := by
  refine ⟨?_, (hb.alloc hB o).grown hg (by simp; omega) (fun k hk => (hown.lt k hk).1)⟩
  refine OB.of ?_
  rw [List.length_append, u8s_append]
  exact hown'
theorem src_step {B : Nat} {w0 w w3 : World} {v v' : Value} {Z Y : List Int} (hown : w.ownsRow B 5 1 v Z.length (u8s Z)) (hown' : w3.ownsRow B 5 1 v' (Z.length + Y.length) (u8s Z ++ u8s Y))
    (hg : w.grownBy w3 v.ownBlock) (hb : Below B w0 w) (hB : B ≤ w.heap.size) : OB B w3 v' (Z ++ Y) ∧ Below B w0 w3 := by
  refine ⟨?_, hb.grown hg hB (fun k hk => (hown.lt k hk).1)⟩
  refine OB.of ?_
  rw [List.length_append, u8s_append]
  exact hown'
/-- the cells of a new block -/
theorem new_cells (w : World) (Y : List Int) (t : TypeId) : ∀ j u, (u8s Y)[j]? = some u → (w.alloc (.cells (u8s Y).toArray t)).cell? ((⟨w.heap.size, 0, none⟩ : Addr).add j) = some u := by
  intro j u hj
  have e : (⟨w.heap.size, 0, none⟩ : Addr).add j = ⟨w.heap.size, j, none⟩ := by unfold Addr.add; split <;> simp_all
  rw [e, World.cell?_alloc_mark]
  simpa using hj
/-- the cells of a source -/
theorem src_cells {w : World} {x : Addr} {zs : List Int} (h : Ln w (some x) zs) : ∀ j u, (u8s zs)[j]? = some u → w.cell? (x.add j) = some u := by
  intro j u hj
  have hj' : j < zs.length := by
    rcases Nat.lt_or_ge j zs.length with h' | h'
    · exact h'
    · rw [List.getElem?_eq_none (by rw [u8s_length]; exact h')] at hj; cases hj
  rcases h with rfl | ⟨b, off, e, hc⟩
  · simp at hj'
  · simp only [Option.some.injEq] at e
    subst e
    rw [Go.WideShapes.add_plain, hc j hj', ← u8s_get zs j hj', hj]
/-- the owned row read as a line -/
theorem OB.ln {B : Nat} {w : World} {a : Option Addr} {cap : Nat} {Z : List Int} (h : w.ownsRow B 5 1 (.slice a Z.length cap) Z.length (u8s Z)) : Ln w a Z := by
  have h' := h
  obtain ⟨_, h2⟩ := h
  rcases h2 with ⟨_, h2⟩ | ⟨g, cap', cur, e, _⟩
  · exact .inl (List.eq_nil_of_length_eq_zero h2)
  · simp only [Value.slice.injEq, true_and] at e
    obtain ⟨rfl, rfl⟩ := e
    refine .inr ⟨g, 0, rfl, fun k hk => ?_⟩
    have := h'.cellAt k (by omega)
    rw [u8s_get Z k hk] at this
    rw [Nat.zero_add]
    exact this

set_option maxHeartbeats 400000 in
theorem bytes14 (d : Int) (a0 a3 : Option Addr) (n0 c0 n3 c3 : Nat) (s : ByteArray) (w : World) (h0 : n0 ≤ maxLen) (h1 : s.size ≤ maxLen) (h3 : n3 ≤ maxLen) :
    Calls Trym.prog 14 #[.slice a0 n0 c0, .string s, .int .i64 d, .slice a3 n3 c3] w (SomeBool w) := by
  unfold maxLen at h0 h1 h3
  go_enter Trym.func14, Trym.ntmps14
  go_wp2
  all_goals go_ret
  all_goals exact ⟨_, rfl, rfl⟩

theorem later {w w1 : World} {ao : Option Addr} {zs : List Int} (h : ∀ x, ao = some x → ∀ k, k < zs.length → w.cell? (x.add k) = some (.int .u8 (zs.getD k 0))) (hb : Below w.heap.size w w1) :
    ∀ x, ao = some x → ∀ k, k < zs.length → w1.cell? (x.add k) = some (.int .u8 (zs.getD k 0)) :=
  fun x hx k hk => (hb.cell (p := x.add k) (cell_lt (h x hx k hk))).trans (h x hx k hk)

set_option maxHeartbeats 2000000 in
set_option maxRecDepth 100000 in
theorem main4 (a0 : Option Addr) (ps : List Int) (c0 : Nat) (s : ByteArray) (d0 : Int) (a3 : Option Addr) (ts : List Int) (c3 : Nat) (w : World) (hm0 : ps.length ≤ maxLen) (hm1 : s.size ≤ maxLen) (hm3 : ts.length ≤ maxLen)
    (hnil0 : a0 = none → ps = []) (hcell0 : ∀ x, a0 = some x → ∀ k, k < ps.length → w.cell? (x.add k) = some (.int .u8 (ps.getD k 0))) (hbd0 : ∀ z ∈ ps, 0 ≤ z ∧ z ≤ 255)
    (hnil3 : a3 = none → ts = []) (hcell3 : ∀ x, a3 = some x → ∀ k, k < ts.length → w.cell? (x.add k) = some (.int .u8 (ts.getD k 0))) (hbd3 : ∀ z ∈ ts, 0 ≤ z ∧ z ≤ 255) :
    Calls Trym.prog 4 #[.slice a0 ps.length c0, .string s, .int .i64 d0, .slice a3 ts.length c3] w fun e w' => e = .returned (.bool true) ∧ Below w.heap.size w w' := by
  have h14 := bytes14 d0 a0 a3 ps.length c0 ts.length c3 s w hm0 hm1 hm3
  unfold maxLen at hm0 hm1 hm3
  by_cases hz : ¬ (ps.length ≤ 262144 ∧ s.size ≤ 262144 ∧ ts.length ≤ 262144 ∧ ps.length + 2 * s.size + ts.length ≤ 1040382 ∧ 0 ≤ d0 ∧ d0 ≤ 4096)
  · clear hnil0 hcell0 hnil3 hcell3
    go_enter Trym.func4, Trym.ntmps4
    go_upto_region 9 with (go_at_call 14; refine h14.mono ?_; rintro e wx ⟨r, rfl, hwx⟩; have hwx := hwx.symm; subst hwx)
    all_goals first | (go_ret; exact ⟨rfl, Below.refl _ _⟩) | (exfalso; omega)
  have hp' : ps.length ≤ 262144 := by omega
  have hs' : s.size ≤ 262144 := by omega
  have ht' : ts.length ≤ 262144 := by omega
  have hsum : ps.length + 2 * s.size + ts.length ≤ 1040382 := by omega
  have hd1 : 0 ≤ d0 := by omega
  have hd2 : d0 ≤ 4096 := by omega
  clear hz
  obtain ⟨d, rfl⟩ := Int.eq_ofNat_of_zero_le hd1
  obtain ⟨i0, hi, hz0, hz1, hz2⟩ := info_parts Trym.info5
  have hls := bl_length s
  have h11p := clone11q a0 ps c0 w (by omega) hnil0 hcell0
  have H11t : Hid (∀ w1, Below w.heap.size w w1 → Calls Trym.prog 11 #[.slice a3 ts.length c3] w1 (CloneQ w1 ts)) := fun w1 hb => clone11q a3 ts c3 w1 (by omega) hnil3 (later hcell3 hb)
  have HBp : Hid (∀ z ∈ ps, 0 ≤ z ∧ z ≤ 255) := hbd0
  have HBt : Hid (∀ z ∈ ts, 0 ≤ z ∧ z ≤ 255) := hbd3
  clear hnil0 hcell0 hnil3 hcell3 hbd0 hbd3
  go_enter Trym.func4, Trym.ntmps4
  go_upto_region 10 with (first
    | (go_at_call 14; refine h14.mono ?_; rintro e wx ⟨r, rfl, hwx⟩; have hwx := hwx.symm; subst hwx)
    | (go_at_call 11; refine h11p.mono ?_; rintro e w1 ⟨ap, rfl, hap, hb1, hlp1⟩))
  · go_ret
    exact ⟨rfl, Below.refl _ _⟩
  have h11t := H11t.out w1 hb1
  go_upto_region 11 with (go_at_call 11; refine h11t.mono ?_; rintro e w2 ⟨aq, rfl, haq, hb2, hlt2⟩; have hlp2 := hlp1.below hb2)
  clear h11t H11t h11p h14
  go_upto_region 12 with (at_make; refine wpList_make_own _ rfl (.const (.int .i64 0)) (.tmp 66) 22 rfl w2.heap.size 5 i0 (.int .u8 0) 1 Trym.underlying22 hi hz0 hz1 .i64 .i64 _ (ps.length + 2 * s.size + 2 * d + 2 + ts.length) rfl rfl (by omega) (by rw [hz2]; omega) (by unfold maxLen; omega) (Nat.le_refl _) ?_; intro w3 hown hgrow; have hb3 : Below w2.heap.size w2 w3 := (Below.refl _ _).grown hgrow (Nat.le_refl _) (fun k hk => by cases hk); have HO : Hid (w3.ownsRow w2.heap.size 5 1 (.slice (some ⟨w2.heap.size, 0, none⟩) 0 (ps.length + 2 * s.size + 2 * d + 2 + ts.length)) ([] : List Int).length (u8s [])) := hown; have hB3 : w2.heap.size ≤ w3.heap.size := hb3.size; clear hown hgrow)
  have Hap : Hid (ap = none → ps = []) := hap
  have Haq : Hid (aq = none → ts = []) := haq
  clear hap haq
  go_cut [9] (fun v wc => Hid (OB w2.heap.size wc v ps) ∧ Below w2.heap.size w2 wc)
  case first =>
    cases ap with
    | none =>
      obtain rfl := Hap.out rfl
      go_wp2_with (at_builtin; refine wpList_append_own_none rfl (.tmp 68) (.tmp 69) 22 rfl w2.heap.size 5 i0 1 Trym.underlying22 hi _ _ _ rfl HO.out rfl ?_)
      go_meet
      case rel => exact ⟨hidE (OB.of (by simpa using HO.out)), hb3⟩
    | some x =>
      have hln3 := hlp2.below hb3
      go_wp2_with (at_builtin; refine wpList_append_own _ rfl (.tmp 68) (.tmp 69) 22 rfl w2.heap.size 5 i0 (.int .u8 0) 1 1 Trym.underlying22 hi hz0 hz1 hz2 rfl (by decide) _ ([] : List Int).length (u8s []) rfl HO.out x ps.length ps.length (u8s ps) rfl (by rw [u8s_length]; omega) (src_cells hln3) (u8s_one _) (by unfold maxLen; simp; omega) (by simp; omega) hB3 ?_; intro v' w4 hown' hgrow _; have hst := src_step (Y := ps) HO.out hown' hgrow hb3 hB3; clear hown' hgrow)
      go_meet
      case rel => exact hst
  case rest =>
    obtain ⟨HOb, hbc⟩ := hcut
    clear HO hB3 hb3
    obtain ⟨K, HKs⟩ : ∃ K, Hid (bl s = K) := ⟨_, rfl⟩
    go_wp2
    go_loopw [9, 10] (fun v t wr => ∃ (k : Nat) (X : List Int), k ≤ d ∧ t = .int .i64 k ∧ Hid (X.length = k ∧ ∀ c ∈ X, opB c = true) ∧ Hid (OB w2.heap.size wr v (ps ++ X)) ∧ Below w2.heap.size w2 wr) (fun _ t _ => d - (intOf t).toNat)
    case atStart => exact ⟨0, [], Nat.zero_le _, rfl, ⟨rfl, fun c h => by cases h⟩, by rw [List.append_nil]; exact HOb, hbc⟩
    case round =>
      obtain ⟨k, X, hk, rfl, HX, HOx, hbr⟩ := hrel
      clear HOb hbc
      obtain ⟨Z, HZ⟩ : ∃ Z : List Int, Hid (ps ++ X = Z) := ⟨_, hidE rfl⟩
      rw [HZ.out] at HOx
      have hZl : Z.length = ps.length + k := by rw [← HZ.out, List.length_append, HX.out.1]
      have hZl1 : Z.length ≤ 300000 := by omega
      have HZl : Hid (Z.length = ps.length + k) := hZl
      obtain ⟨av, cv, hve, ho⟩ := HOx.out
      subst hve
      have HOw : Hid (wr.ownsRow w2.heap.size 5 1 (.slice av Z.length cv) Z.length (u8s Z)) := ho
      have hBr : w2.heap.size ≤ wr.heap.size := hbr.size
      clear ho hZl
      by_cases hlt : k < d
      · go_wp2_with (first
          | (at_builtin; refine wpList_append_own _ rfl (.tmp 79) (.tmp 80) 22 rfl w2.heap.size 5 i0 (.int .u8 0) 1 1 Trym.underlying22 hi hz0 hz1 hz2 rfl (by decide) _ Z.length (u8s Z) rfl (HOw.out.alloc _) ⟨wr.heap.size, 0, none⟩ 1 1 (u8s [91]) rfl rfl (new_cells _ [91] _) (u8s_one _) (by unfold maxLen; omega) (by omega) (by simp; omega) ?_; intro v' w5 hown' hgrow _; have hst := app_step (Y := [91]) HOw.out hown' hgrow hbr hBr; clear hown' hgrow)
          | (at_builtin; refine wpList_append_own _ rfl (.tmp 82) (.tmp 83) 22 rfl w2.heap.size 5 i0 (.int .u8 0) 1 1 Trym.underlying22 hi hz0 hz1 hz2 rfl (by decide) _ Z.length (u8s Z) rfl (HOw.out.alloc _) ⟨wr.heap.size, 0, none⟩ 1 1 (u8s [123]) rfl rfl (new_cells _ [123] _) (u8s_one _) (by unfold maxLen; omega) (by omega) (by simp; omega) ?_; intro v' w5 hown' hgrow _; have hst := app_step (Y := [123]) HOw.out hown' hgrow hbr hBr; clear hown' hgrow))
        · go_roundw
          case rel => exact ⟨k + 1, X ++ [91], by omega, by go_num, ⟨by simp [HX.out.1], fun c hc => by rcases List.mem_append.1 hc with h | h; exact HX.out.2 c h; simp at h; subst h; rfl⟩, by rw [← List.append_assoc, HZ.out]; exact hst.1, hst.2⟩
          case measure => simp [intOf]; omega
        · go_roundw
          case rel => exact ⟨k + 1, X ++ [123], by omega, by go_num, ⟨by simp [HX.out.1], fun c hc => by rcases List.mem_append.1 hc with h | h; exact HX.out.2 c h; simp at h; subst h; rfl⟩, by rw [← List.append_assoc, HZ.out]; exact hst.1, hst.2⟩
          case measure => simp [intOf]; omega
      · have HXl : Hid (X.length = d) := hidE (by rw [HX.out.1]; omega)
        have HXo : Hid (∀ c ∈ X, opB c = true) := HX.out.2
        obtain ⟨Z1, HZ1⟩ : ∃ Z1 : List Int, Hid (Z ++ [34] = Z1) := ⟨_, hidE rfl⟩
        clear HX HOx
        have hKl : K.length = s.size := by rw [← HKs.out]; exact hls
        go_wp2_with (at_builtin; refine wpList_append_own _ rfl (.tmp 85) (.tmp 86) 22 rfl w2.heap.size 5 i0 (.int .u8 0) 1 1 Trym.underlying22 hi hz0 hz1 hz2 rfl (by decide) _ Z.length (u8s Z) rfl (HOw.out.alloc _) ⟨wr.heap.size, 0, none⟩ 1 1 (u8s [34]) rfl rfl (new_cells _ [34] _) (u8s_one _) (by unfold maxLen; omega) (by omega) (by simp; omega) ?_; intro vA wA hown' hgrow _; have hstA := app_step (Y := [34]) HOw.out hown' hgrow hbr hBr; clear hown' hgrow)
        have HS1 := hidE hstA.1
        have hbA := hstA.2
        clear hstA HOw hbr hBr
        go_loopw [9, 11] (fun v t wr => ∃ (q : Nat) (Z2 : List Int), q ≤ s.size ∧ t = .int .i64 q ∧ Hid (Z2 = Z ++ [34] ++ es (K.take q)) ∧ Hid (OB w2.heap.size wr v Z2) ∧ Below w2.heap.size w2 wr) (fun _ t _ => s.size - (intOf t).toNat)
        case atStart => exact ⟨0, Z ++ [34], Nat.zero_le _, rfl, hidE (by simp [es]), HS1, hbA⟩
        case round =>
          obtain ⟨q, Z2, hq, rfl, HZ2, HOb2, hbr2⟩ := hrel
          clear HS1 hbA
          have hZ2l : Z2.length ≤ 900000 := by
            have h1 := es_le (K.take q)
            rw [List.length_take] at h1
            have h2 := HZl.out
            rw [HZ2.out, List.length_append, List.length_append]
            simp only [List.length_cons, List.length_nil]
            omega
          obtain ⟨av2, cv2, hve2, ho2⟩ := HOb2.out
          subst hve2
          have HOw2 : Hid (wr.ownsRow w2.heap.size 5 1 (.slice av2 Z2.length cv2) Z2.length (u8s Z2)) := ho2
          have hBr2 : w2.heap.size ≤ wr.heap.size := hbr2.size
          clear ho2 HOb2
          by_cases hqs : q < s.size
          · have hck := bl_at s q hqs
            rw [HKs.out] at hck
            obtain ⟨c, HC⟩ : ∃ c, Hid (K.getD q 0 = c) := ⟨_, rfl⟩
            rw [HC.out] at hck
            rcases (show c = 34 ∨ c = 92 ∨ (c ≠ 34 ∧ c ≠ 92) by omega) with rfl | rfl | ⟨g1, g2⟩
            · obtain ⟨Z3, HZ3⟩ : ∃ Z3 : List Int, Hid (Z2 ++ [92] = Z3) := ⟨_, hidE rfl⟩
              have hZ3l : Z3.length ≤ 900001 := by rw [← HZ3.out, List.length_append]; simp; omega
              have HN : Hid (Z3 ++ [34] = Z ++ [34] ++ es (K.take (q + 1))) := hidE (by rw [take_snoc _ _ (by omega), HC.out, es_snoc, ← HZ3.out, HZ2.out]; simp [e1])
              go_wp2_with (first
                | (at_builtin; refine wpList_append_own _ rfl (.tmp 103) (.tmp 104) 22 rfl w2.heap.size 5 i0 (.int .u8 0) 1 1 Trym.underlying22 hi hz0 hz1 hz2 rfl (by decide) _ Z2.length (u8s Z2) rfl (HOw2.out.alloc _) ⟨wr.heap.size, 0, none⟩ 1 1 (u8s [92]) rfl rfl (new_cells _ [92] _) (u8s_one _) (by unfold maxLen; omega) (by omega) (by simp; omega) ?_; intro vA wA hown' hgrow _; have hstA := app_step (Y := [92]) HOw2.out hown' hgrow hbr2 hBr2; clear hown' hgrow; obtain ⟨hq1, hbA⟩ := hstA; rw [HZ3.out] at hq1; obtain ⟨aA, cA, rfl, hq2⟩ := hq1; have HOA : Hid (wA.ownsRow w2.heap.size 5 1 (.slice aA Z3.length cA) Z3.length (u8s Z3)) := hq2; have hBA : w2.heap.size ≤ wA.heap.size := hbA.size; clear hq2)
                | (at_builtin; refine wpList_append_own _ rfl (.tmp 106) (.tmp 108) 22 rfl w2.heap.size 5 i0 (.int .u8 0) 1 1 Trym.underlying22 hi hz0 hz1 hz2 rfl (by decide) _ Z3.length (u8s Z3) rfl (HOA.out.alloc _) ⟨wA.heap.size, 0, none⟩ 1 1 (u8s [34]) rfl rfl (new_cells _ [34] _) (u8s_one _) (by unfold maxLen; omega) (by omega) (by simp; omega) ?_; intro vB wB hown' hgrow _; have hstB := app_step (Y := [34]) HOA.out hown' hgrow hbA hBA; clear hown' hgrow))
              go_roundw
              case rel => exact ⟨q + 1, Z3 ++ [34], by omega, by go_num, HN, hstB.1, hstB.2⟩
              case measure => simp [intOf]; omega
            · obtain ⟨Z3, HZ3⟩ : ∃ Z3 : List Int, Hid (Z2 ++ [92] = Z3) := ⟨_, hidE rfl⟩
              have hZ3l : Z3.length ≤ 900001 := by rw [← HZ3.out, List.length_append]; simp; omega
              have HN : Hid (Z3 ++ [92] = Z ++ [34] ++ es (K.take (q + 1))) := hidE (by rw [take_snoc _ _ (by omega), HC.out, es_snoc, ← HZ3.out, HZ2.out]; simp [e1])
              go_wp2_with (first
                | (at_builtin; refine wpList_append_own _ rfl (.tmp 103) (.tmp 104) 22 rfl w2.heap.size 5 i0 (.int .u8 0) 1 1 Trym.underlying22 hi hz0 hz1 hz2 rfl (by decide) _ Z2.length (u8s Z2) rfl (HOw2.out.alloc _) ⟨wr.heap.size, 0, none⟩ 1 1 (u8s [92]) rfl rfl (new_cells _ [92] _) (u8s_one _) (by unfold maxLen; omega) (by omega) (by simp; omega) ?_; intro vA wA hown' hgrow _; have hstA := app_step (Y := [92]) HOw2.out hown' hgrow hbr2 hBr2; clear hown' hgrow; obtain ⟨hq1, hbA⟩ := hstA; rw [HZ3.out] at hq1; obtain ⟨aA, cA, rfl, hq2⟩ := hq1; have HOA : Hid (wA.ownsRow w2.heap.size 5 1 (.slice aA Z3.length cA) Z3.length (u8s Z3)) := hq2; have hBA : w2.heap.size ≤ wA.heap.size := hbA.size; clear hq2)
                | (at_builtin; refine wpList_append_own _ rfl (.tmp 106) (.tmp 108) 22 rfl w2.heap.size 5 i0 (.int .u8 0) 1 1 Trym.underlying22 hi hz0 hz1 hz2 rfl (by decide) _ Z3.length (u8s Z3) rfl (HOA.out.alloc _) ⟨wA.heap.size, 0, none⟩ 1 1 (u8s [92]) rfl rfl (new_cells _ [92] _) (u8s_one _) (by unfold maxLen; omega) (by omega) (by simp; omega) ?_; intro vB wB hown' hgrow _; have hstB := app_step (Y := [92]) HOA.out hown' hgrow hbA hBA; clear hown' hgrow))
              go_roundw
              case rel => exact ⟨q + 1, Z3 ++ [92], by omega, by go_num, HN, hstB.1, hstB.2⟩
              case measure => simp [intOf]; omega
            · have n34 : (c == 34) = false := by simpa using g1
              have n92 : (c == 92) = false := by simpa using g2
              have HN : Hid (Z2 ++ [c] = Z ++ [34] ++ es (K.take (q + 1))) := hidE (by rw [take_snoc _ _ (by omega), HC.out, es_snoc, HZ2.out]; simp [e1, g1, g2])
              clear g1 g2
              go_wp2_with (at_builtin; refine wpList_append_own _ rfl (.tmp 106) (.tmp 108) 22 rfl w2.heap.size 5 i0 (.int .u8 0) 1 1 Trym.underlying22 hi hz0 hz1 hz2 rfl (by decide) _ Z2.length (u8s Z2) rfl (HOw2.out.alloc _) ⟨wr.heap.size, 0, none⟩ 1 1 (u8s [c]) rfl rfl (new_cells _ [c] _) (u8s_one _) (by unfold maxLen; omega) (by omega) (by simp; omega) ?_; intro vB wB hown' hgrow _; have hstB := app_step (Y := [c]) HOw2.out hown' hgrow hbr2 hBr2; clear hown' hgrow)
              go_roundw
              case rel => exact ⟨q + 1, Z2 ++ [c], by omega, by go_num, HN, hstB.1, hstB.2⟩
              case measure => simp [intOf]; omega
          · have HZ2e : Hid (Z2 = Z ++ [34] ++ es K) := hidE (by rw [HZ2.out, List.take_of_length_le (by omega)])
            clear HZ2
            obtain ⟨Z4, HZ4⟩ : ∃ Z4 : List Int, Hid (Z2 ++ [34] = Z4) := ⟨_, hidE rfl⟩
            have hZ4l : Z4.length ≤ 900001 := by rw [← HZ4.out, List.length_append]; simp; omega
            go_wp2_with (at_builtin; refine wpList_append_own _ rfl (.tmp 110) (.tmp 111) 22 rfl w2.heap.size 5 i0 (.int .u8 0) 1 1 Trym.underlying22 hi hz0 hz1 hz2 rfl (by decide) _ Z2.length (u8s Z2) rfl (HOw2.out.alloc _) ⟨wr.heap.size, 0, none⟩ 1 1 (u8s [34]) rfl rfl (new_cells _ [34] _) (u8s_one _) (by unfold maxLen; omega) (by omega) (by simp; omega) ?_; intro vE wE hown' hgrow _; have hstE := app_step (Y := [34]) HOw2.out hown' hgrow hbr2 hBr2; clear hown' hgrow)
            have HS4 := hidE hstE.1
            rw [HZ4.out] at HS4
            have hbE := hstE.2
            clear hstE HOw2 hbr2 hBr2
            go_loopw [9, 13] (fun v t wr => ∃ (m : Nat) (Y : List Int), m ≤ d ∧ t = .int .i64 ((m : Int) - 1) ∧ Hid (Y.length = d - m ∧ ∀ c ∈ Y, clB c = true) ∧ Hid (OB w2.heap.size wr v (Z4 ++ Y)) ∧ Below w2.heap.size w2 wr) (fun _ t _ => (intOf t + 1).toNat)
            case atStart => exact ⟨d, [], Nat.le_refl _, rfl, ⟨by simp, fun c h => by cases h⟩, by rw [List.append_nil]; exact HS4, hbE⟩
            case round =>
              obtain ⟨m, Y, hm, rfl, HY, HOy, hbr4⟩ := hrel
              clear HS4 hbE
              obtain ⟨Z5, HZ5⟩ : ∃ Z5 : List Int, Hid (Z4 ++ Y = Z5) := ⟨_, hidE rfl⟩
              rw [HZ5.out] at HOy
              have hZ5l : Z5.length ≤ 910000 := by rw [← HZ5.out, List.length_append, HY.out.1]; omega
              obtain ⟨av5, cv5, hve5, ho5⟩ := HOy.out
              subst hve5
              have HOw5 : Hid (wr.ownsRow w2.heap.size 5 1 (.slice av5 Z5.length cv5) Z5.length (u8s Z5)) := ho5
              have hBr4 : w2.heap.size ≤ wr.heap.size := hbr4.size
              clear ho5 HOy
              by_cases hm1 : 1 ≤ m
              · obtain ⟨m', rfl⟩ : ∃ m', m = m' + 1 := ⟨m - 1, by omega⟩
                rw [show ((m' + 1 : Nat) : Int) - 1 = (m' : Int) by omega]
                go_wp2_with (first
                  | (at_builtin; refine wpList_append_own _ rfl (.tmp 122) (.tmp 123) 22 rfl w2.heap.size 5 i0 (.int .u8 0) 1 1 Trym.underlying22 hi hz0 hz1 hz2 rfl (by decide) _ Z5.length (u8s Z5) rfl (HOw5.out.alloc _) ⟨wr.heap.size, 0, none⟩ 1 1 (u8s [93]) rfl rfl (new_cells _ [93] _) (u8s_one _) (by unfold maxLen; omega) (by omega) (by simp; omega) ?_; intro v' w5 hown' hgrow _; have hst := app_step (Y := [93]) HOw5.out hown' hgrow hbr4 hBr4; clear hown' hgrow)
                  | (at_builtin; refine wpList_append_own _ rfl (.tmp 125) (.tmp 126) 22 rfl w2.heap.size 5 i0 (.int .u8 0) 1 1 Trym.underlying22 hi hz0 hz1 hz2 rfl (by decide) _ Z5.length (u8s Z5) rfl (HOw5.out.alloc _) ⟨wr.heap.size, 0, none⟩ 1 1 (u8s [125]) rfl rfl (new_cells _ [125] _) (u8s_one _) (by unfold maxLen; omega) (by omega) (by simp; omega) ?_; intro v' w5 hown' hgrow _; have hst := app_step (Y := [125]) HOw5.out hown' hgrow hbr4 hBr4; clear hown' hgrow))
                · go_roundw
                  case rel => exact ⟨m', Y ++ [93], by omega, by go_num, ⟨by have := HY.out.1; simp; omega, fun c hc => by rcases List.mem_append.1 hc with h | h; exact HY.out.2 c h; simp at h; subst h; rfl⟩, by rw [← List.append_assoc, HZ5.out]; exact hst.1, hst.2⟩
                  case measure => simp [intOf]
                · go_roundw
                  case rel => exact ⟨m', Y ++ [125], by omega, by go_num, ⟨by have := HY.out.1; simp; omega, fun c hc => by rcases List.mem_append.1 hc with h | h; exact HY.out.2 c h; simp at h; subst h; rfl⟩, by rw [← List.append_assoc, HZ5.out]; exact hst.1, hst.2⟩
                  case measure => simp [intOf]
              · have h0 : m = 0 := by omega
                subst h0
                have HLe : Hid (Z5 ++ ts = builtT ps X K Y ts) := hidE (by
                  rw [← HZ5.out, ← HZ4.out, HZ2e.out, ← HZ.out]
                  unfold builtT
                  simp)
                have HYl : Hid (X.length = Y.length) := hidE (by rw [HXl.out, HY.out.1]; omega)
                have HV : Hid (ve (Z5 ++ ts) ps.length = (Z5.length : Int)) := hidE (by
                  rw [HLe.out, ve_built ps X K Y ts HXo.out HY.out.2 HYl.out, ← HZ5.out, ← HZ4.out, HZ2e.out, ← HZ.out]
                  simp
                  omega)
                have HR : Hid (∀ z ∈ Z5 ++ ts, 0 ≤ z ∧ z ≤ 255) := hidE (by
                  intro z hz
                  rw [HLe.out] at hz
                  unfold builtT at hz
                  simp only [List.mem_append, List.mem_cons] at hz
                  rcases hz with h | h | rfl | h | rfl | h | h
                  · exact HBp.out z h
                  · have := of_decide_eq_true (HXo.out z h); omega
                  · decide
                  · rw [← HKs.out] at h; exact es_mem (bl_mem s) z h
                  · decide
                  · have := of_decide_eq_true (HY.out.2 z h); omega
                  · exact HBt.out z h)
                have HPl : Hid (ps.length < Z5.length) := hidE (by
                  rw [← HZ5.out, ← HZ4.out, HZ2e.out, ← HZ.out]
                  simp
                  omega)
                cases aq with
                | none =>
                  obtain rfl := Haq.out rfl
                  rw [List.append_nil] at HV HR
                  have h12 := zz12 av5 Z5 cv5 ps.length wr (OB.ln HOw5.out) (by omega) HPl.out HR.out
                  rw [HV.out] at h12
                  go_wp2_with (first
                    | (at_builtin; refine wpList_append_own_none rfl (.tmp 130) (.tmp 131) 22 rfl w2.heap.size 5 i0 1 Trym.underlying22 hi _ _ _ rfl HOw5.out rfl ?_)
                    | (go_at_call 12; refine h12.mono ?_; rintro e wx ⟨rfl, hwx⟩; have hwx := hwx.symm; subst hwx))
                  go_ret
                  exact ⟨ret_bool (by simp), (hb1.trans (hb2.mono hb1.size)).trans (hbr4.mono (Nat.le_trans hb1.size hb2.size))⟩
                | some x =>
                  have hln5 := hlt2.below hbr4
                  obtain ⟨L, HL⟩ : ∃ L : List Int, Hid (Z5 ++ ts = L) := ⟨_, hidE rfl⟩
                  rw [HL.out] at HV HR
                  have HLl : Hid (L.length = Z5.length + ts.length) := hidE (by rw [← HL.out, List.length_append])
                  go_wp2_with (first
                    | (at_builtin; refine wpList_append_own _ rfl (.tmp 130) (.tmp 131) 22 rfl w2.heap.size 5 i0 (.int .u8 0) 1 1 Trym.underlying22 hi hz0 hz1 hz2 rfl (by decide) _ Z5.length (u8s Z5) rfl HOw5.out x ts.length ts.length (u8s ts) rfl (by rw [u8s_length]; omega) (src_cells hln5) (u8s_one _) (by unfold maxLen; omega) (by omega) hBr4 ?_; intro v' w6 hown' hgrow _; have hst := src_step (Y := ts) HOw5.out hown' hgrow hbr4 hBr4; clear hown' hgrow; obtain ⟨hq6, hb6⟩ := hst; rw [HL.out] at hq6; obtain ⟨a6, c6, rfl, ho6⟩ := hq6; have h12 := zz12 a6 L c6 ps.length w6 (OB.ln ho6) (by have := HLl.out; omega) (by have := HLl.out; have := HPl.out; omega) HR.out; clear ho6; rw [HV.out] at h12)
                    | (go_at_call 12; refine h12.mono ?_; rintro e wx ⟨rfl, hwx⟩; have hwx := hwx.symm; subst hwx))
                  go_ret
                  exact ⟨ret_bool (by simp), (hb1.trans (hb2.mono hb1.size)).trans (hb6.mono (Nat.le_trans hb1.size hb2.size))⟩
end Go.Proofs.Qxb6001230aMods
