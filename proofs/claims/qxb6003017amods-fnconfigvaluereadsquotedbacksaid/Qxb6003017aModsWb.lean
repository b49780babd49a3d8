import Derived.Test.Qxb6003017aModsWa
namespace Go.Proofs.Qxb6003017aMods
open Go.RowKit

def spB (c : Int) : Bool := c == 32 || c == 9 || c == 13

set_option maxHeartbeats 400000 in
theorem space25 (c : Int) (w : World) : Calls Trym.prog 25 #[.int .u8 c] w fun e w' => e = .returned (.bool (spB c)) ∧ w' = w := by
  unfold spB
  by_cases h : c = 32
  · subst h
    go_enter Trym.func25, Trym.ntmps25
    go_wp2
    go_ret
    exact ⟨rfl, rfl⟩
  · have h1 : (c == 32) = false := by simpa using h
    by_cases h' : c = 9
    · subst h'
      go_enter Trym.func25, Trym.ntmps25
      go_wp2
      go_ret
      exact ⟨rfl, rfl⟩
    · have h2 : (c == 9) = false := by simpa using h'
      rw [h1, h2]
      go_enter Trym.func25, Trym.ntmps25
      go_wp2
      go_ret
      exact ⟨rfl, rfl⟩

theorem run30 (s : ByteArray) (c : Int) (w : World) :
    (callFunc 30 #[.string s, .int .u8 c]).run Trym.prog w = .ok (.value (.int .i64 (Lib.indexByte s.data.toList c.toNat.toUInt8))) w := by
  rw [run_callFunc_indexByte Trym.func30 (by kernel_rfl) (by kernel_rfl) (by kernel_rfl) (by kernel_rfl), Lib.run_indexByteString]
  rfl

set_option maxHeartbeats 400000 in
theorem index26 (s : ByteArray) (c : Int) (w : World) :
    Calls Trym.prog 26 #[.string s, .int .u8 c] w fun e w' => e = .returned (.int .i64 (Lib.indexByte s.data.toList c.toNat.toUInt8)) ∧ w' = w := by
  have h30 := run30
  go_enter Trym.func26, Trym.ntmps26
  go_wp2
  go_ret
  exact ⟨rfl, rfl⟩

/-! the plain side -/
def esc1 (v : Int) : List Int := if v = 92 ∨ v = 34 then [92, v] else if v = 10 then [92, 110] else if v = 8 then [92, 98] else [v]
def esc : List Int → List Int
  | [] => []
  | v :: r => esc1 v ++ esc r
def tailC (C : List Int) : List Int := 34 :: 32 :: 35 :: (C ++ [10, 122])
def textOf (V C : List Int) : List Int := 32 :: 34 :: (esc V ++ tailC C)

def Ph (V C R : List Int) (q cm : Bool) (bk : Nat) (Z : List Int) : Prop :=
  (R = textOf V C ∧ q = false ∧ cm = false ∧ bk = 0 ∧ Z = []) ∨
  (R = 34 :: (esc V ++ tailC C) ∧ q = false ∧ cm = false ∧ bk = 0 ∧ Z = []) ∨
  (∃ V2, V = Z ++ V2 ∧ R = esc V2 ++ tailC C ∧ q = true ∧ cm = false ∧ bk = 0) ∨
  (R = 32 :: 35 :: (C ++ [10, 122]) ∧ q = false ∧ cm = false ∧ bk = 0 ∧ Z = V) ∨
  (R = 35 :: (C ++ [10, 122]) ∧ q = false ∧ cm = false ∧ bk ≤ 1 ∧ Z = V) ∨
  (∃ C2, R = C2 ++ [10, 122] ∧ (∀ c ∈ C2, c ≠ 10) ∧ q = false ∧ cm = true ∧ bk ≤ 1 ∧ Z = V)

/-- a suffix taken apart -/
theorem uncons {L R : List Int} {k : Nat} {c : Int} (h : L.drop k = c :: R) : k < L.length ∧ L.getD k 0 = c ∧ L.drop (k + 1) = R := by
  have hk : k < L.length := by
    rcases Nat.lt_or_ge k L.length with h' | h'
    · exact h'
    · rw [List.drop_of_length_le h'] at h; cases h
  rw [List.drop_eq_getElem_cons hk] at h
  simp only [List.cons.injEq] at h
  refine ⟨hk, ?_, h.2⟩
  rw [List.getD_eq_getElem?_getD, List.getElem?_eq_getElem hk]
  exact h.1

/-- behind configValue: V read, the place behind the line, true -/
def Post19 (B : Nat) (V : List Int) (n : Nat) (w : World) (e : Ending) (w' : World) : Prop :=
  e = .returned (.tuple #[.string (strOfNums V), .int .i64 (n : Int), .bool true]) ∧ Below B w w'

set_option maxHeartbeats 2000000 in
set_option maxRecDepth 100000 in
theorem conf19 (s : ByteArray) (V C : List Int) (w : World) (hL : bl s = textOf V C) (hV : V.length ≤ 65536) (hC : ∀ c ∈ C, c ≠ 10) (hs : s.size ≤ 4194304) :
    Calls Trym.prog 19 #[.string s, .int .i64 0] w (Post19 w.heap.size V (s.size - 1) w) := by
  obtain ⟨i0, hi, hz0, hz1, hz2⟩ := info_parts Trym.info5
  have hlen := bl_length s
  go_enter Trym.func19, Trym.ntmps19
  go_wp2
  go_loopw [1, 7, 8, 9, 10] (fun t v q cm bk wr => ∃ (k b : Nat) (qb cb : Bool) (Z : List Int), k ≤ s.size ∧ t = .int .i64 k ∧ q = .bool qb ∧ cm = .bool cb ∧ bk = .int .i64 b ∧ Hid (Ph V C ((bl s).drop k) qb cb b Z) ∧ Hid (OB w.heap.size wr v Z) ∧ Below w.heap.size w wr) (fun t _ _ _ _ _ => s.size - (intOf t).toNat)
  case atStart => exact ⟨0, 0, false, false, [], Nat.zero_le _, rfl, rfl, rfl, rfl, .inl ⟨hL, rfl, rfl, rfl, rfl⟩, OB.nil _ _, Below.refl _ _⟩
  case round =>
    obtain ⟨k, b, qb, cb, Z, hk, rfl, rfl, rfl, rfl, HP, HO, hbr⟩ := hrel
    obtain ⟨av, cv, hv, ho⟩ := HO.out
    subst hv
    have HOw : Hid (wr.ownsRow w.heap.size 5 1 (.slice av Z.length cv) Z.length (u8s Z)) := ho
    clear ho
    have hBr : w.heap.size ≤ wr.heap.size := hbr.size
    rcases HP.out with ⟨hR, rfl, rfl, rfl, rfl⟩ | ⟨hR, rfl, rfl, rfl, rfl⟩ | ⟨V2, hVe, hR, rfl, rfl, rfl⟩ | ⟨hR, rfl, rfl, rfl, rfl⟩ | ⟨hR, rfl, rfl, hb1, rfl⟩ | ⟨C2, hR, hC2, rfl, rfl, hb1, rfl⟩
    · -- the first blank
      obtain ⟨hkl, hc, hR1⟩ := uncons hR
      have hlt : k < s.size := by omega
      have hck := bl_at s k hlt
      rw [hc] at hck
      have HN : Hid (Ph V C ((bl s).drop (k + 1)) false false 0 []) := .inr (.inl ⟨hR1, rfl, rfl, rfl, rfl⟩)
      clear HP hR hc hR1
      go_wp2_with (go_at_call 25; refine (space25 _ _).mono ?_; rintro e wx ⟨rfl, hwx⟩; have hwx := hwx.symm; subst hwx)
      go_roundw
      case rel => exact ⟨k + 1, 0, false, false, [], by omega, by go_num, rfl, rfl, rfl, HN, HO, hbr⟩
      case measure => simp [intOf]; omega
    · -- the opening quote
      obtain ⟨hkl, hc, hR1⟩ := uncons hR
      have hlt : k < s.size := by omega
      have hck := bl_at s k hlt
      rw [hc] at hck
      have HN : Hid (Ph V C ((bl s).drop (k + 1)) true false 0 []) := .inr (.inr (.inl ⟨V, rfl, hR1, rfl, rfl, rfl⟩))
      clear HP hR hc hR1
      have hsp : spB 34 = false := rfl
      go_wp2_with (go_at_call 25; refine (space25 _ _).mono ?_; rintro e wx ⟨rfl, hwx⟩; have hwx := hwx.symm; subst hwx)
      go_loop [7, 10] (fun v t => v = .slice av 0 cv ∧ t = .int .i64 0) (fun _ _ => 0)
      case atStart => exact ⟨rfl, rfl⟩
      case round =>
        obtain ⟨rfl, rfl⟩ := hrel
        go_wp2
        go_roundw
        case rel => exact ⟨k + 1, 0, true, false, [], by omega, by go_num, rfl, rfl, rfl, HN, HO, hbr⟩
        case measure => simp [intOf]; omega
    · have hZl : Z.length + V2.length = V.length := by rw [hVe]; simp
      cases V2 with
      | nil =>
        -- the closing quote
        have hR' : (bl s).drop k = 34 :: 32 :: 35 :: (C ++ [10, 122]) := hR
        obtain ⟨hkl, hc, hR1⟩ := uncons hR'
        have hlt : k < s.size := by omega
        have hck := bl_at s k hlt
        rw [hc] at hck
        have hVZ : Z = V := by rw [hVe]; simp
        have HN : Hid (Ph V C ((bl s).drop (k + 1)) false false 0 Z) := .inr (.inr (.inr (.inl ⟨hR1, rfl, rfl, rfl, hVZ⟩)))
        clear HP hR hR' hc hR1 hVZ hVe
        go_wp2_with (go_at_call 25; refine (space25 _ _).mono ?_; rintro e wx ⟨rfl, hwx⟩; have hwx := hwx.symm; subst hwx)
        go_loop [7, 10] (fun v t => v = .slice av Z.length cv ∧ t = .int .i64 0) (fun _ _ => 0)
        case atStart => exact ⟨rfl, rfl⟩
        case round =>
          obtain ⟨rfl, rfl⟩ := hrel
          go_wp2
          go_roundw
          case rel => exact ⟨k + 1, 0, false, false, Z, by omega, by go_num, rfl, rfl, rfl, HN, HO, hbr⟩
          case measure => simp [intOf]; omega
      | cons v V3 =>
        simp only [List.length_cons] at hZl
        rcases (show v = 92 ∨ v = 34 ∨ v = 10 ∨ v = 8 ∨ (v ≠ 92 ∧ v ≠ 34 ∧ v ≠ 10 ∧ v ≠ 8) by omega) with rfl | rfl | rfl | rfl | ⟨g1, g2, g3, g4⟩
        · have hR' : (bl s).drop k = 92 :: 92 :: (esc V3 ++ tailC C) := by rw [hR, esc, esc1]; simp
          obtain ⟨hkl, hc, hR1⟩ := uncons hR'
          obtain ⟨hkl2, hc2, hR2⟩ := uncons hR1
          have hlt : k < s.size := by omega
          have hlt2 : k + 1 < s.size := by omega
          have hck := bl_at s k hlt
          have hck2 := bl_at s (k + 1) hlt2
          rw [hc] at hck
          rw [hc2] at hck2
          have hidx : ∀ wx, Calls Trym.prog 26 #[.string ⟨#[92, 34, 110, 116, 98]⟩, .int .u8 92] wx fun e w' => e = .returned (.int .i64 0) ∧ w' = wx := fun wx => index26 ⟨#[92, 34, 110, 116, 98]⟩ 92 wx
          have e1 : ((k : Int) + 1 == (s.size : Int)) = false := by rw [beq_eq_false_iff_ne]; omega
          have HN : Hid (Ph V C ((bl s).drop (k + 2)) true false 0 (Z ++ [92])) := .inr (.inr (.inl ⟨V3, by rw [hVe]; simp, hR2, rfl, rfl, rfl⟩))
          clear HP hR hR' hc hc2 hR1 hR2 HO
          go_wp2_with (go_at_call 25; refine (space25 _ _).mono ?_; rintro e wx ⟨rfl, hwx⟩; have hwx := hwx.symm; subst hwx)
          go_loop [7, 10] (fun v t => v = .slice av Z.length cv ∧ t = .int .i64 0) (fun _ _ => 0)
          case atStart => exact ⟨rfl, rfl⟩
          case round =>
            obtain ⟨rfl, rfl⟩ := hrel
            go_wp2_with (first | (go_at_call 26; refine (hidx _).mono ?_; rintro e wx ⟨rfl, hwx⟩; have hwx := hwx.symm; subst hwx) | (at_builtin; refine wpList_append_own _ rfl (.tmp 85) (.tmp 88) 26 rfl w.heap.size 5 i0 (.int .u8 0) 1 1 Trym.underlying26 hi hz0 hz1 hz2 rfl (by decide) _ Z.length (u8s Z) rfl (HOw.out.alloc _) ⟨wr.heap.size, 0, none⟩ 1 1 [.int .u8 92] rfl rfl (cell_one_new _ _ _) (by intro u hu; simp at hu; subst hu; rfl) (by unfold maxLen; omega) (by omega) (by simp; omega) ?_; intro v' w3 hown' hgrow _; have hst := app_step (Y := [92]) HOw.out hown' hgrow hbr hBr; clear hown' hgrow))
            go_roundw
            case rel => exact ⟨k + 2, 0, true, false, Z ++ [92], by omega, by go_num, rfl, rfl, rfl, HN, hst.1, hst.2⟩
            case measure => simp [intOf]; omega
        · have hR' : (bl s).drop k = 92 :: 34 :: (esc V3 ++ tailC C) := by rw [hR, esc, esc1]; simp
          obtain ⟨hkl, hc, hR1⟩ := uncons hR'
          obtain ⟨hkl2, hc2, hR2⟩ := uncons hR1
          have hlt : k < s.size := by omega
          have hlt2 : k + 1 < s.size := by omega
          have hck := bl_at s k hlt
          have hck2 := bl_at s (k + 1) hlt2
          rw [hc] at hck
          rw [hc2] at hck2
          have hidx : ∀ wx, Calls Trym.prog 26 #[.string ⟨#[92, 34, 110, 116, 98]⟩, .int .u8 34] wx fun e w' => e = .returned (.int .i64 1) ∧ w' = wx := fun wx => index26 ⟨#[92, 34, 110, 116, 98]⟩ 34 wx
          have e1 : ((k : Int) + 1 == (s.size : Int)) = false := by rw [beq_eq_false_iff_ne]; omega
          have HN : Hid (Ph V C ((bl s).drop (k + 2)) true false 0 (Z ++ [34])) := .inr (.inr (.inl ⟨V3, by rw [hVe]; simp, hR2, rfl, rfl, rfl⟩))
          clear HP hR hR' hc hc2 hR1 hR2 HO
          go_wp2_with (go_at_call 25; refine (space25 _ _).mono ?_; rintro e wx ⟨rfl, hwx⟩; have hwx := hwx.symm; subst hwx)
          go_loop [7, 10] (fun v t => v = .slice av Z.length cv ∧ t = .int .i64 0) (fun _ _ => 0)
          case atStart => exact ⟨rfl, rfl⟩
          case round =>
            obtain ⟨rfl, rfl⟩ := hrel
            go_wp2_with (first | (go_at_call 26; refine (hidx _).mono ?_; rintro e wx ⟨rfl, hwx⟩; have hwx := hwx.symm; subst hwx) | (at_builtin; refine wpList_append_own _ rfl (.tmp 85) (.tmp 88) 26 rfl w.heap.size 5 i0 (.int .u8 0) 1 1 Trym.underlying26 hi hz0 hz1 hz2 rfl (by decide) _ Z.length (u8s Z) rfl (HOw.out.alloc _) ⟨wr.heap.size, 0, none⟩ 1 1 [.int .u8 34] rfl rfl (cell_one_new _ _ _) (by intro u hu; simp at hu; subst hu; rfl) (by unfold maxLen; omega) (by omega) (by simp; omega) ?_; intro v' w3 hown' hgrow _; have hst := app_step (Y := [34]) HOw.out hown' hgrow hbr hBr; clear hown' hgrow))
            go_roundw
            case rel => exact ⟨k + 2, 0, true, false, Z ++ [34], by omega, by go_num, rfl, rfl, rfl, HN, hst.1, hst.2⟩
            case measure => simp [intOf]; omega
        · have hR' : (bl s).drop k = 92 :: 110 :: (esc V3 ++ tailC C) := by rw [hR, esc, esc1]; simp
          obtain ⟨hkl, hc, hR1⟩ := uncons hR'
          obtain ⟨hkl2, hc2, hR2⟩ := uncons hR1
          have hlt : k < s.size := by omega
          have hlt2 : k + 1 < s.size := by omega
          have hck := bl_at s k hlt
          have hck2 := bl_at s (k + 1) hlt2
          rw [hc] at hck
          rw [hc2] at hck2
          have hidx : ∀ wx, Calls Trym.prog 26 #[.string ⟨#[92, 34, 110, 116, 98]⟩, .int .u8 110] wx fun e w' => e = .returned (.int .i64 2) ∧ w' = wx := fun wx => index26 ⟨#[92, 34, 110, 116, 98]⟩ 110 wx
          have e1 : ((k : Int) + 1 == (s.size : Int)) = false := by rw [beq_eq_false_iff_ne]; omega
          have HN : Hid (Ph V C ((bl s).drop (k + 2)) true false 0 (Z ++ [10])) := .inr (.inr (.inl ⟨V3, by rw [hVe]; simp, hR2, rfl, rfl, rfl⟩))
          clear HP hR hR' hc hc2 hR1 hR2 HO
          go_wp2_with (go_at_call 25; refine (space25 _ _).mono ?_; rintro e wx ⟨rfl, hwx⟩; have hwx := hwx.symm; subst hwx)
          go_loop [7, 10] (fun v t => v = .slice av Z.length cv ∧ t = .int .i64 0) (fun _ _ => 0)
          case atStart => exact ⟨rfl, rfl⟩
          case round =>
            obtain ⟨rfl, rfl⟩ := hrel
            go_wp2_with (first | (go_at_call 26; refine (hidx _).mono ?_; rintro e wx ⟨rfl, hwx⟩; have hwx := hwx.symm; subst hwx) | (at_builtin; refine wpList_append_own _ rfl (.tmp 85) (.tmp 88) 26 rfl w.heap.size 5 i0 (.int .u8 0) 1 1 Trym.underlying26 hi hz0 hz1 hz2 rfl (by decide) _ Z.length (u8s Z) rfl (HOw.out.alloc _) ⟨wr.heap.size, 0, none⟩ 1 1 [.int .u8 10] rfl rfl (cell_one_new _ _ _) (by intro u hu; simp at hu; subst hu; rfl) (by unfold maxLen; omega) (by omega) (by simp; omega) ?_; intro v' w3 hown' hgrow _; have hst := app_step (Y := [10]) HOw.out hown' hgrow hbr hBr; clear hown' hgrow))
            go_roundw
            case rel => exact ⟨k + 2, 0, true, false, Z ++ [10], by omega, by go_num, rfl, rfl, rfl, HN, hst.1, hst.2⟩
            case measure => simp [intOf]; omega
        · have hR' : (bl s).drop k = 92 :: 98 :: (esc V3 ++ tailC C) := by rw [hR, esc, esc1]; simp
          obtain ⟨hkl, hc, hR1⟩ := uncons hR'
          obtain ⟨hkl2, hc2, hR2⟩ := uncons hR1
          have hlt : k < s.size := by omega
          have hlt2 : k + 1 < s.size := by omega
          have hck := bl_at s k hlt
          have hck2 := bl_at s (k + 1) hlt2
          rw [hc] at hck
          rw [hc2] at hck2
          have hidx : ∀ wx, Calls Trym.prog 26 #[.string ⟨#[92, 34, 110, 116, 98]⟩, .int .u8 98] wx fun e w' => e = .returned (.int .i64 4) ∧ w' = wx := fun wx => index26 ⟨#[92, 34, 110, 116, 98]⟩ 98 wx
          have e1 : ((k : Int) + 1 == (s.size : Int)) = false := by rw [beq_eq_false_iff_ne]; omega
          have HN : Hid (Ph V C ((bl s).drop (k + 2)) true false 0 (Z ++ [8])) := .inr (.inr (.inl ⟨V3, by rw [hVe]; simp, hR2, rfl, rfl, rfl⟩))
          clear HP hR hR' hc hc2 hR1 hR2 HO
          go_wp2_with (go_at_call 25; refine (space25 _ _).mono ?_; rintro e wx ⟨rfl, hwx⟩; have hwx := hwx.symm; subst hwx)
          go_loop [7, 10] (fun v t => v = .slice av Z.length cv ∧ t = .int .i64 0) (fun _ _ => 0)
          case atStart => exact ⟨rfl, rfl⟩
          case round =>
            obtain ⟨rfl, rfl⟩ := hrel
            go_wp2_with (first | (go_at_call 26; refine (hidx _).mono ?_; rintro e wx ⟨rfl, hwx⟩; have hwx := hwx.symm; subst hwx) | (at_builtin; refine wpList_append_own _ rfl (.tmp 85) (.tmp 88) 26 rfl w.heap.size 5 i0 (.int .u8 0) 1 1 Trym.underlying26 hi hz0 hz1 hz2 rfl (by decide) _ Z.length (u8s Z) rfl (HOw.out.alloc _) ⟨wr.heap.size, 0, none⟩ 1 1 [.int .u8 8] rfl rfl (cell_one_new _ _ _) (by intro u hu; simp at hu; subst hu; rfl) (by unfold maxLen; omega) (by omega) (by simp; omega) ?_; intro v' w3 hown' hgrow _; have hst := app_step (Y := [8]) HOw.out hown' hgrow hbr hBr; clear hown' hgrow))
            go_roundw
            case rel => exact ⟨k + 2, 0, true, false, Z ++ [8], by omega, by go_num, rfl, rfl, rfl, HN, hst.1, hst.2⟩
            case measure => simp [intOf]; omega
        · have hR' : (bl s).drop k = v :: (esc V3 ++ tailC C) := by rw [hR, esc, esc1]; simp [g1, g2, g3, g4]
          obtain ⟨hkl, hc, hR1⟩ := uncons hR'
          have hlt : k < s.size := by omega
          have hck := bl_at s k hlt
          rw [hc] at hck
          have n92 : (v == 92) = false := by simpa using g1
          have n34 : (v == 34) = false := by simpa using g2
          have n10 : (v != 10) = true := by simpa using g3
          have n10' : (v == 10) = false := by simpa using g3
          have HN : Hid (Ph V C ((bl s).drop (k + 1)) true false 0 (Z ++ [v])) := .inr (.inr (.inl ⟨V3, by rw [hVe]; simp, hR1, rfl, rfl, rfl⟩))
          clear HP hR hR' hc hR1 HO g1 g2 g3 g4 hVe
          rcases (show v = 35 ∨ v = 59 ∨ (v ≠ 35 ∧ v ≠ 59) by omega) with rfl | rfl | ⟨g5, g6⟩
          · have hsp : spB 35 = false := rfl
            go_wp2_with (go_at_call 25; refine (space25 _ _).mono ?_; rintro e wx ⟨rfl, hwx⟩; have hwx := hwx.symm; subst hwx)
            go_loop [7, 10] (fun v t => v = .slice av Z.length cv ∧ t = .int .i64 0) (fun _ _ => 0)
            case atStart => exact ⟨rfl, rfl⟩
            case round =>
              obtain ⟨rfl, rfl⟩ := hrel
              go_wp2_with (at_builtin; refine wpList_append_own _ rfl (.tmp 61) (.tmp 63) 26 rfl w.heap.size 5 i0 (.int .u8 0) 1 1 Trym.underlying26 hi hz0 hz1 hz2 rfl (by decide) _ Z.length (u8s Z) rfl (HOw.out.alloc _) ⟨wr.heap.size, 0, none⟩ 1 1 [.int .u8 35] rfl rfl (cell_one_new _ _ _) (by intro u hu; simp at hu; subst hu; rfl) (by unfold maxLen; omega) (by omega) (by simp; omega) ?_; intro v' w3 hown' hgrow _; have hst := app_step (Y := [35]) HOw.out hown' hgrow hbr hBr; clear hown' hgrow)
              go_roundw
              case rel => exact ⟨k + 1, 0, true, false, Z ++ [35], by omega, by go_num, rfl, rfl, rfl, HN, hst.1, hst.2⟩
              case measure => simp [intOf]; omega
          · have hsp : spB 59 = false := rfl
            go_wp2_with (go_at_call 25; refine (space25 _ _).mono ?_; rintro e wx ⟨rfl, hwx⟩; have hwx := hwx.symm; subst hwx)
            go_loop [7, 10] (fun v t => v = .slice av Z.length cv ∧ t = .int .i64 0) (fun _ _ => 0)
            case atStart => exact ⟨rfl, rfl⟩
            case round =>
              obtain ⟨rfl, rfl⟩ := hrel
              go_wp2_with (at_builtin; refine wpList_append_own _ rfl (.tmp 61) (.tmp 63) 26 rfl w.heap.size 5 i0 (.int .u8 0) 1 1 Trym.underlying26 hi hz0 hz1 hz2 rfl (by decide) _ Z.length (u8s Z) rfl (HOw.out.alloc _) ⟨wr.heap.size, 0, none⟩ 1 1 [.int .u8 59] rfl rfl (cell_one_new _ _ _) (by intro u hu; simp at hu; subst hu; rfl) (by unfold maxLen; omega) (by omega) (by simp; omega) ?_; intro v' w3 hown' hgrow _; have hst := app_step (Y := [59]) HOw.out hown' hgrow hbr hBr; clear hown' hgrow)
              go_roundw
              case rel => exact ⟨k + 1, 0, true, false, Z ++ [59], by omega, by go_num, rfl, rfl, rfl, HN, hst.1, hst.2⟩
              case measure => simp [intOf]; omega
          · have n35 : (v == 35) = false := by simpa using g5
            have n59 : (v == 59) = false := by simpa using g6
            clear g5 g6
            have hsp : spB v = true ∨ spB v = false := by cases spB v <;> simp
            rcases hsp with hsp | hsp
            · go_wp2_with (go_at_call 25; refine (space25 _ _).mono ?_; rintro e wx ⟨rfl, hwx⟩; have hwx := hwx.symm; subst hwx)
              go_loop [7, 10] (fun v t => v = .slice av Z.length cv ∧ t = .int .i64 0) (fun _ _ => 0)
              case atStart => exact ⟨rfl, rfl⟩
              case round =>
                obtain ⟨rfl, rfl⟩ := hrel
                go_wp2_with (at_builtin; refine wpList_append_own _ rfl (.tmp 61) (.tmp 63) 26 rfl w.heap.size 5 i0 (.int .u8 0) 1 1 Trym.underlying26 hi hz0 hz1 hz2 rfl (by decide) _ Z.length (u8s Z) rfl (HOw.out.alloc _) ⟨wr.heap.size, 0, none⟩ 1 1 [.int .u8 v] rfl rfl (cell_one_new _ _ _) (by intro u hu; simp at hu; subst hu; rfl) (by unfold maxLen; omega) (by omega) (by simp; omega) ?_; intro v' w3 hown' hgrow _; have hst := app_step (Y := [v]) HOw.out hown' hgrow hbr hBr; clear hown' hgrow)
                go_roundw
                case rel => exact ⟨k + 1, 0, true, false, Z ++ [v], by omega, by go_num, rfl, rfl, rfl, HN, hst.1, hst.2⟩
                case measure => simp [intOf]; omega
            · go_wp2_with (go_at_call 25; refine (space25 _ _).mono ?_; rintro e wx ⟨rfl, hwx⟩; have hwx := hwx.symm; subst hwx)
              go_loop [7, 10] (fun v t => v = .slice av Z.length cv ∧ t = .int .i64 0) (fun _ _ => 0)
              case atStart => exact ⟨rfl, rfl⟩
              case round =>
                obtain ⟨rfl, rfl⟩ := hrel
                go_wp2_with (at_builtin; refine wpList_append_own _ rfl (.tmp 61) (.tmp 63) 26 rfl w.heap.size 5 i0 (.int .u8 0) 1 1 Trym.underlying26 hi hz0 hz1 hz2 rfl (by decide) _ Z.length (u8s Z) rfl (HOw.out.alloc _) ⟨wr.heap.size, 0, none⟩ 1 1 [.int .u8 v] rfl rfl (cell_one_new _ _ _) (by intro u hu; simp at hu; subst hu; rfl) (by unfold maxLen; omega) (by omega) (by simp; omega) ?_; intro v' w3 hown' hgrow _; have hst := app_step (Y := [v]) HOw.out hown' hgrow hbr hBr; clear hown' hgrow)
                go_roundw
                case rel => exact ⟨k + 1, 0, true, false, Z ++ [v], by omega, by go_num, rfl, rfl, rfl, HN, hst.1, hst.2⟩
                case measure => simp [intOf]; omega
    · -- the blank behind the closing quote
      obtain ⟨hkl, hc, hR1⟩ := uncons hR
      have hlt : k < s.size := by omega
      have hck := bl_at s k hlt
      rw [hc] at hck
      clear HP hR hc
      by_cases hZ0 : Z.length = 0
      · have HN : Hid (Ph Z C ((bl s).drop (k + 1)) false false 0 Z) := .inr (.inr (.inr (.inr (.inl ⟨hR1, rfl, rfl, by omega, rfl⟩))))
        have hZ0' : ¬ (0 : Int) < (Z.length : Int) := by omega
        clear hR1 hZ0
        go_wp2_with (go_at_call 25; refine (space25 _ _).mono ?_; rintro e wx ⟨rfl, hwx⟩; have hwx := hwx.symm; subst hwx)
        go_roundw
        case rel => exact ⟨k + 1, 0, false, false, Z, by omega, by go_num, rfl, rfl, rfl, HN, HO, hbr⟩
        case measure => simp [intOf]; omega
      · have HN : Hid (Ph Z C ((bl s).drop (k + 1)) false false 1 Z) := .inr (.inr (.inr (.inr (.inl ⟨hR1, rfl, rfl, by omega, rfl⟩))))
        have hZ0' : (0 : Int) < (Z.length : Int) := by omega
        clear hR1
        go_wp2_with (go_at_call 25; refine (space25 _ _).mono ?_; rintro e wx ⟨rfl, hwx⟩; have hwx := hwx.symm; subst hwx)
        go_roundw
        case rel => exact ⟨k + 1, 1, false, false, Z, by omega, by go_num, rfl, rfl, rfl, HN, HO, hbr⟩
        case measure => simp [intOf]; omega
    · -- the hash
      obtain ⟨hkl, hc, hR1⟩ := uncons hR
      have hlt : k < s.size := by omega
      have hck := bl_at s k hlt
      rw [hc] at hck
      have HN : Hid (Ph Z C ((bl s).drop (k + 1)) false true b Z) := .inr (.inr (.inr (.inr (.inr ⟨C, hR1, hC, rfl, rfl, hb1, rfl⟩))))
      clear HP hR hc hR1
      have hsp : spB 35 = false := rfl
      go_wp2_with (go_at_call 25; refine (space25 _ _).mono ?_; rintro e wx ⟨rfl, hwx⟩; have hwx := hwx.symm; subst hwx)
      go_roundw
      case rel => exact ⟨k + 1, b, false, true, Z, by omega, by go_num, rfl, rfl, rfl, HN, HO, hbr⟩
      case measure => simp [intOf]; omega
    · cases C2 with
      | nil =>
        -- the line's end
        obtain ⟨hkl, hc, hR1⟩ := uncons hR
        obtain ⟨hkl2, _, hR2⟩ := uncons hR1
        have hend : s.size = k + 2 := by
          have h3 := congrArg List.length hR2
          simp at h3
          omega
        have hlt : k < s.size := by omega
        have hck := bl_at s k hlt
        rw [hc] at hck
        have kc := OB.conv HOw.out
        clear HP hR hc hR1 hR2 HO
        go_wp2
        go_ret3
        exact ⟨by rw [hend]; rfl, hbr⟩
      | cons d C3 =>
        obtain ⟨hkl, hc, hR1⟩ := uncons hR
        have hlt : k < s.size := by omega
        have hck := bl_at s k hlt
        rw [hc] at hck
        have hd : d ≠ 10 := hC2 d (List.mem_cons_self ..)
        have nd : (d != 10) = true := by simpa using hd
        have nd' : (d == 10) = false := by simpa using hd
        have HN : Hid (Ph Z C ((bl s).drop (k + 1)) false true b Z) := .inr (.inr (.inr (.inr (.inr ⟨C3, hR1, fun c h => hC2 c (List.mem_cons_of_mem _ h), rfl, rfl, hb1, rfl⟩))))
        clear HP hR hc hR1 hC2 hd
        go_wp2
        go_roundw
        case rel => exact ⟨k + 1, b, false, true, Z, by omega, by go_num, rfl, rfl, rfl, HN, HO, hbr⟩
        case measure => simp [intOf]; omega
end Go.Proofs.Qxb6003017aMods
