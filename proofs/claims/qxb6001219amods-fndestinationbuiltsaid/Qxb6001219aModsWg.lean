import Derived.Test.Qxb6001219aModsWf
namespace Go.Proofs.Qxb6001219aMods
open Go.RowKit

theorem size_mk (a : Array UInt8) : (ByteArray.mk a).size = a.size := rfl

set_option maxHeartbeats 1000000 in
set_option maxRecDepth 100000 in
theorem main8 (x y t : ByteArray) (w : World) (hx : x.size ≤ maxLen) (hy : y.size ≤ maxLen) (ht : t.size ≤ maxLen) :
    Calls Trym.prog 8 #[.string x, .string y, .string t] w fun e w' => e = .returned (.bool true) ∧ w' = w := by
  have h18 := bytes18 x y t w hx hy ht
  unfold maxLen at hx hy ht
  by_cases hz : ¬ (x.size ≤ 262144 ∧ y.size ≤ 262144 ∧ t.size ≤ 262144)
  · go_enter Trym.func8, Trym.ntmps8
    go_upto_region 9 with (go_at_call 18; refine h18.mono ?_; rintro e wx ⟨r, rfl, hwx⟩; have hwx := hwx.symm; subst hwx)
    all_goals first | (go_ret; exact ⟨rfl, rfl⟩) | (exfalso; omega)
  have hx' : x.size ≤ 262144 := by omega
  have hy' : y.size ≤ 262144 := by omega
  have ht' : t.size ≤ 262144 := by omega
  clear hz
  have hlx := bl_length x
  have hly := bl_length y
  have h19 := bare19 x w (by omega)
  have h20 := ang20 y w (by omega)
  go_enter Trym.func8, Trym.ntmps8
  go_upto_if 24 with (first
    | (go_at_call 18; refine h18.mono ?_; rintro e wx ⟨rb, rfl, hwx⟩; have hwx := hwx.symm; subst hwx)
    | (go_at_call 19; refine h19.mono ?_; rintro e wx ⟨b1, rfl, hwx, hb1⟩; have hwx := hwx.symm; subst hwx))
  · go_ret
    exact ⟨rfl, rfl⟩
  go_cut [7] (fun _ wc => wc = w)
  case first =>
    cases b1 with
    | false =>
      clear hb1
      go_wp2
      go_meet
      case rel => rfl
    | true =>
      obtain ⟨hX, hne, h60⟩ := hb1 rfl
      have d1 : dest (bl (x ++ ⟨#[32]⟩ ++ t)) = x.size := by rw [bl_append, bl_append, ← hlx]; exact built1 hX hne h60
      have d2 : dest (bl (x ++ ⟨#[41]⟩ ++ t)) = x.size := by rw [bl_append, bl_append, ← hlx]; exact built2 hX hne h60
      have d3 : dest (bl (⟨#[40]⟩ ++ x ++ ⟨#[41, 32]⟩ ++ t)) = (x.size : Int) + 2 := by rw [bl_append, bl_append, bl_append, ← hlx]; exact built3 hX
      have d4 : dest (bl (x ++ ⟨#[92, 41, 32]⟩ ++ t)) = (x.size : Int) + 2 := by rw [bl_append, bl_append, ← hlx]; exact built4 hX hne h60
      have d5 : dest (bl (⟨#[40]⟩ ++ x)) = -1 := by rw [bl_append]; exact built5 hX
      clear hb1 hX hne h60
      go_wp2_with (go_at_call 15; refine (zzdest15 _ _ (by simp [ByteArray.size_append, size_mk]; omega)).mono ?_; rintro e wx ⟨rfl, hwx⟩; have hwx := hwx.symm; subst hwx)
      go_meet
      case rel => rfl
  case rest =>
    subst hcut
    go_upto_if 63 with (go_at_call 20; refine h20.mono ?_; rintro e wx ⟨b2, rfl, hwx, hb2⟩; have hwx := hwx.symm; subst hwx)
    cases b2 with
    | false =>
      go_wp2
      go_ret
      exact ⟨rfl, rfl⟩
    | true =>
      have hY := hb2 rfl
      have d1 : dest (bl (⟨#[60]⟩ ++ y ++ ⟨#[62]⟩ ++ t)) = (y.size : Int) + 2 := by rw [bl_append, bl_append, bl_append, ← hly]; exact built6 hY
      have d2 : dest (bl (⟨#[60]⟩ ++ y)) = -1 := by rw [bl_append]; exact built7 hY
      have d3 : dest (bl (⟨#[60]⟩ ++ y ++ ⟨#[10, 62]⟩ ++ t)) = -1 := by rw [bl_append, bl_append, bl_append]; exact built8 hY
      clear hb2 hY hb1
      go_wp2_with (go_at_call 15; refine (zzdest15 _ _ (by simp [ByteArray.size_append, size_mk]; omega)).mono ?_; rintro e wx ⟨rfl, hwx⟩; have hwx := hwx.symm; subst hwx)
      go_ret
      exact ⟨rfl, rfl⟩
end Go.Proofs.Qxb6001219aMods
