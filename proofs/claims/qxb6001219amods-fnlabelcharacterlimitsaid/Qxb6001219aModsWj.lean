import Derived.Test.Qxb6001219aModsWi
import Derived.Test.Qxb6001219aModsWd
namespace Go.Proofs.Qxb6001219aMods
open Go.RowKit

theorem Trym.info5 : (Trym.prog.info? 5).map (fun i => (i.zero, i.size, i.bytes)) = some (some (.int .u8 0), 1, 1) := by kernel_rfl
theorem size_mk (a : Array UInt8) : (ByteArray.mk a).size = a.size := rfl

/-- bytes as cells (a name of its own) -/
def u8s (zs : List Int) : List Value := zs.map (Value.int .u8)
theorem u8s_snoc (Z : List Int) (c : Int) : u8s (Z ++ [c]) = u8s Z ++ [.int .u8 c] := by simp [u8s]

/-- v owns the bytes Z -/
def OB (B : Nat) (w : World) (v : Value) (Z : List Int) : Prop :=
  ∃ g cap, v = .slice (some ⟨g, 0, none⟩) Z.length cap ∧ w.ownsRow B 5 1 v Z.length (u8s Z)

theorem app_step {B : Nat} {w0 w w3 : World} {v v' : Value} {Z : List Int} {c : Int} {o : Obj} (hown : w.ownsRow B 5 1 v Z.length (u8s Z)) (hown' : w3.ownsRow B 5 1 v' (Z.length + 1) (u8s Z ++ [.int .u8 c]))
    (hg : (w.alloc o).grownBy w3 v.ownBlock) (hb : Below B w0 w) (hB : B ≤ w.heap.size) : OB B w3 v' (Z ++ [c]) ∧ Below B w0 w3 := by
  refine ⟨?_, (hb.alloc hB o).grown hg (by simp; omega) (fun k hk => (hown.lt k hk).1)⟩
  have h := hown'
  obtain ⟨_, h2⟩ := hown'
  rcases h2 with ⟨_, h2⟩ | ⟨g, cap, cur, rfl, _⟩
  · omega
  · refine ⟨g, cap, by simp, ?_⟩
    rw [List.length_append, u8s_snoc]
    exact h

theorem OB.conv {B : Nat} {w : World} {g cap : Nat} {Z : List Int} (h : w.ownsRow B 5 1 (.slice (some ⟨g, 0, none⟩) Z.length cap) Z.length (u8s Z)) :
    (convert 28 9 (.slice (some ⟨g, 0, none⟩) Z.length cap)).run Trym.prog w = .ok (.string (strOfNums Z)) w := by
  refine run_convert_bytes_arg w 28 5 Trym.underlying28 Trym.underlying5 g 0 Z.length cap Z rfl (fun i hi => ?_) 9 Trym.underlying9
  have := h.cellAt i (by omega)
  rw [u8s, List.getElem?_map, List.getElem?_eq_getElem hi] at this
  rw [Nat.zero_add, this, List.getD_eq_getElem?_getD, List.getElem?_eq_getElem hi]
  rfl

theorem bl_nums (Z : List Int) (h : ∀ z ∈ Z, 0 ≤ z ∧ z ≤ 255) : bl (strOfNums Z) = Z := by
  unfold bl strOfNums
  simp only [List.map_map]
  conv => rhs; rw [← List.map_id Z]
  refine List.map_congr_left (fun z hz => ?_)
  have := h z hz
  simp
  omega

theorem rep_bd {U : List Int} (h : ∀ z ∈ U, 0 ≤ z ∧ z ≤ 255) : ∀ k, ∀ z ∈ rep k U, 0 ≤ z ∧ z ≤ 255 := by
  intro k
  induction k with
  | zero => intro z hz; cases hz
  | succ k ih =>
    intro z hz
    rw [rep, List.mem_append] at hz
    rcases hz with hz | hz
    · exact h z hz
    · exact ih z hz
theorem bl_mem (s : ByteArray) : ∀ z ∈ bl s, 0 ≤ z ∧ z ≤ 255 := by
  intro z hz
  simp only [bl, List.mem_map] at hz
  obtain ⟨b, _, rfl⟩ := hz
  have := b.toNat_lt
  omega

set_option maxHeartbeats 400000 in
theorem bytes12 (k u : Int) (t : ByteArray) (w : World) (ht : t.size ≤ maxLen) : Calls Trym.prog 12 #[.int .i64 k, .int .i64 u, .string t] w (SomeBool w) := by
  unfold maxLen at ht
  go_enter Trym.func12, Trym.ntmps12
  go_wp2
  all_goals go_ret
  all_goals exact ⟨_, rfl, rfl⟩

set_option maxHeartbeats 1000000 in
set_option maxRecDepth 100000 in
theorem main5 (k0 u : Int) (t : ByteArray) (w : World) (ht : t.size ≤ maxLen) :
    Calls Trym.prog 5 #[.int .i64 k0, .int .i64 u, .string t] w fun e w' => e = .returned (.bool true) ∧ Below w.heap.size w w' := by
  have h12 := bytes12 k0 u t w ht
  unfold maxLen at ht
  have h13 := unit13 u w
  by_cases hz : ¬ (t.size ≤ 524288 ∧ 0 ≤ k0 ∧ k0 ≤ 65536)
  · go_enter Trym.func5, Trym.ntmps5
    go_upto_region 7 with (go_at_call 12; refine h12.mono ?_; rintro e wx ⟨r, rfl, hwx⟩; have hwx := hwx.symm; subst hwx)
    all_goals first | (go_ret; exact ⟨rfl, Below.refl _ _⟩) | (exfalso; omega)
  have ht' : t.size ≤ 524288 := by omega
  have hk0 : 0 ≤ k0 := by omega
  have hk1 : k0 ≤ 65536 := by omega
  clear hz
  obtain ⟨k, rfl⟩ := Int.eq_ofNat_of_zero_le hk0
  obtain ⟨i0, hi, hz0, hz1, hz2⟩ := info_parts Trym.info5
  go_enter Trym.func5, Trym.ntmps5
  go_upto_region 8 with (first
    | (go_at_call 12; refine h12.mono ?_; rintro e wx ⟨r, rfl, hwx⟩; have hwx := hwx.symm; subst hwx)
    | (go_at_call 13; refine h13.mono ?_; rintro e wx ⟨un, wt, rfl, hwx, hun⟩; have hwx := hwx.symm; subst hwx))
  · go_ret
    exact ⟨rfl, Below.refl _ _⟩
  rcases hun with rfl | ⟨hw0, hw2, hus, hlaw⟩
  · go_wp2
    go_ret
    exact ⟨rfl, Below.refl _ _⟩
  have hLu := bl_length un
  have hm1 : (k : Int) * (un.size : Int) ≤ 262144 := by
    have : k * un.size ≤ 65536 * 4 := Nat.mul_le_mul (by omega) hus
    rw [← Int.natCast_mul]; omega
  have hm0 : 0 ≤ (k : Int) * (un.size : Int) := by rw [← Int.natCast_mul]; omega
  have HL : Hid (LabLaw (bl un) wt) := hlaw
  clear hlaw h13 h12
  go_wp2_with (at_make; refine wpList_make_own _ rfl (.const (.int .i64 0)) (.tmp 38) 28 rfl w.heap.size 5 i0 (.int .u8 0) 1 Trym.underlying28 hi hz0 hz1 .i64 .i64 _ (k * un.size) rfl rfl (Int.natCast_mul _ _).symm (by rw [hz2]; rw [← Int.natCast_mul] at hm1; omega) (by unfold maxLen; rw [← Int.natCast_mul] at hm1; omega) (Nat.le_refl _) ?_; intro w1 hown hgrow; have hb1 : Below w.heap.size w w1 := (Below.refl _ _).grown hgrow (Nat.le_refl _) (fun k hk => by cases hk); have HO : Hid (OB w.heap.size w1 (.slice (some ⟨w.heap.size, 0, none⟩) 0 (k * un.size)) []) := ⟨_, _, rfl, hown⟩; clear hown hgrow)
  have hB : w.heap.size ≤ w.heap.size := Nat.le_refl _
  obtain ⟨B, HBe⟩ : ∃ B, Hid (w.heap.size = B) := ⟨_, rfl⟩
  obtain ⟨U, HU⟩ : ∃ U, Hid (bl un = U) := ⟨_, rfl⟩
  have hUl : U.length = un.size := by rw [← HU.out]; exact hLu
  have hU4 : U.length ≤ 4 := by omega
  rw [HU.out] at HL
  clear hLu hB
  go_loopw [9, 10, 11] (fun v i _ wr => ∃ m : Nat, m ≤ k ∧ i = .int .i64 m ∧ Hid (OB w.heap.size wr v (rep m U)) ∧ Below w.heap.size w wr) (fun _ i _ _ => k - (intOf i).toNat)
  case atStart => exact ⟨0, Nat.zero_le _, rfl, HO, hb1⟩
  case round =>
    obtain ⟨m, hm, rfl, HR, hbr⟩ := hrel
    clear HO hb1
    by_cases hlt : m < k
    · go_wp2
      go_loopw [9, 11] (fun v j wi => ∃ q : Nat, q ≤ U.length ∧ j = .int .i64 q ∧ Hid (OB w.heap.size wi v (rep m U ++ U.take q)) ∧ Below w.heap.size w wi) (fun _ j _ => U.length - (intOf j).toNat)
      case atStart => exact ⟨0, Nat.zero_le _, rfl, by simpa using HR, hbr⟩
      case round =>
        obtain ⟨q, hq, rfl, HQ, hbq⟩ := hrel
        clear HR hbr
        have hrl := rep_length U m
        have hmu : m * U.length ≤ 65536 * 4 := Nat.mul_le_mul (by omega) hU4
        by_cases hq1 : q < U.length
        · have hqs : q < un.size := by omega
          have hck := bl_at un q hqs
          rw [HU.out] at hck
          obtain ⟨c, HC⟩ : ∃ c, Hid (U.getD q 0 = c) := ⟨_, rfl⟩
          rw [HC.out] at hck
          obtain ⟨g, cap, hv, ho⟩ := HQ.out
          obtain ⟨Z, HZ⟩ : ∃ Z, Hid (rep m U ++ U.take q = Z) := ⟨_, rfl⟩
          rw [HZ.out] at hv ho
          have hZl : Z.length ≤ 262148 := by rw [← HZ.out, List.length_append, List.length_take, hrl]; omega
          have HZ1 : Hid (rep m U ++ U.take (q + 1) = Z ++ [c]) := hidE (by
            rw [← HZ.out, List.append_assoc, List.take_succ_eq_append_getElem hq1]
            have e : U[q] = c := by
              have := HC.out
              rw [List.getD_eq_getElem?_getD, List.getElem?_eq_getElem hq1] at this
              exact this
            rw [e])
          subst hv
          have HOw : Hid (wr.ownsRow w.heap.size 5 1 (.slice (some ⟨g, 0, none⟩) Z.length cap) Z.length (u8s Z)) := ho
          have hBr : w.heap.size ≤ wr.heap.size := hbq.size
          clear ho HQ
          go_wp2_with (at_builtin; refine wpList_append_own _ rfl (.tmp 51) (.tmp 55) 28 rfl w.heap.size 5 i0 (.int .u8 0) 1 1 Trym.underlying28 hi hz0 hz1 hz2 rfl (by decide) _ Z.length (u8s Z) rfl (HOw.out.alloc _) ⟨wr.heap.size, 0, none⟩ 1 1 [.int .u8 c] rfl rfl (cell_one_new _ _ _) (by intro u hu; simp at hu; subst hu; rfl) (by unfold maxLen; omega) (by omega) (by simp; omega) ?_; intro v' w3 hown' hgrow _; have hst := app_step HOw.out hown' hgrow hbq hBr; clear hown' hgrow)
          go_roundw
          case rel => exact ⟨q + 1, by omega, by go_num, by rw [HZ1.out]; exact hst.1, hst.2⟩
          case measure => simp [intOf]; omega
        · have hqe : q = U.length := by omega
          have h := HQ.out
          rw [hqe, List.take_length, ← rep_snoc] at h
          have HN := hidE h
          clear h hqe
          clear HQ
          go_wp2
          go_roundw
          case rel => exact ⟨m + 1, by omega, by go_num, HN, hbq⟩
          case measure => simp [intOf]; omega
    · have hme : m = k := by omega
      subst hme
      obtain ⟨g, cap, hv, ho⟩ := HR.out
      have hrl := rep_length U m
      have hbd : ∀ z ∈ rep m U, 0 ≤ z ∧ z ≤ 255 := rep_bd (by rw [← HU.out]; exact bl_mem un) m
      have hlw := HL.out m (bl t)
      obtain ⟨Z, HZ⟩ : ∃ Z, Hid (rep m U = Z) := ⟨_, rfl⟩
      rw [HZ.out] at hv ho hrl hbd hlw
      subst hv
      have kc := OB.conv ho
      have hbz := bl_nums Z hbd
      have hZs : (strOfNums Z).size = Z.length := by rw [← bl_length, hbz]
      have hmu : m * U.length ≤ 65536 * 4 := Nat.mul_le_mul (by omega) hU4
      have hZl : Z.length ≤ 262144 := by omega
      have hd : lab (bl (⟨#[91]⟩ ++ strOfNums Z ++ ⟨#[93]⟩ ++ t)) = want U wt m := by
        rw [bl_append, bl_append, bl_append, hbz]
        exact hlw
      have hkw0 : 0 ≤ (m : Int) * wt := Int.mul_nonneg (by omega) hw0
      have hkw1 : (m : Int) * wt ≤ 131072 := by
        have := Int.mul_le_mul (show (m : Int) ≤ 65536 by omega) hw2 hw0 (by omega)
        omega
      have H10 := zzlabel10 (⟨#[91]⟩ ++ strOfNums Z ++ ⟨#[93]⟩ ++ t) wr (by simp [ByteArray.size_append, size_mk]; omega)
      rw [hd] at H10
      clear hd hlw hbd hbz HR ho
      by_cases hwant : 0 < wt ∧ 1 ≤ m ∧ (m : Int) * wt ≤ 999
      · have hw : want U wt m = (Z.length : Int) + 2 := by
          unfold want
          rw [if_pos hwant, hrl]
        rw [hw] at H10
        obtain ⟨q1, q2, q3⟩ := hwant
        clear hw hrl
        go_wp2_with (go_at_call 10; refine H10.mono ?_; rintro e wx ⟨rfl, hwx⟩; have hwx := hwx.symm; subst hwx)
        go_ret
        exact ⟨ret_bool (by simp), hbr⟩
      · have hw : want U wt m = 0 := by
          unfold want
          rw [if_neg hwant]
        rw [hw] at H10
        clear hw hrl
        go_wp2_with (go_at_call 10; refine H10.mono ?_; rintro e wx ⟨rfl, hwx⟩; have hwx := hwx.symm; subst hwx)
        all_goals first | (go_ret; exact ⟨ret_bool (by simp), hbr⟩) | (exfalso; omega)
end Go.Proofs.Qxb6001219aMods
