import Derived.Test.Qxb6000713aModsWk
import Derived.Lib.SlBytesConst
import Derived.Lib.BytesEntry
namespace Go.Proofs.Qxb6000713aMods
open Go.RowKit

set_option maxHeartbeats 400000 in
theorem equal55 (b1 o1 c1 b2 o2 c2 : Nat) (xs ys : List Int) (w : World) (h1 : ∀ i, i < xs.length → w.cell? ⟨b1, o1 + i, none⟩ = some (.int .u8 (xs.getD i 0))) (h2 : ∀ i, i < ys.length → w.cell? ⟨b2, o2 + i, none⟩ = some (.int .u8 (ys.getD i 0))) :
    Calls Trym.prog 55 #[.slice (some ⟨b1, o1, none⟩) xs.length c1, .slice (some ⟨b2, o2, none⟩) ys.length c2] w fun e w' => ∃ r : Bool, e = .returned (.bool r) ∧ w' = w := by
  have k1 := run_convert_bytes_arg (P := Trym.prog) w 23 5 Trym.underlying23 Trym.underlying5 b1 o1 xs.length c1 xs rfl h1 9 Trym.underlying9
  have k2 := run_convert_bytes_arg (P := Trym.prog) w 23 5 Trym.underlying23 Trym.underlying5 b2 o2 ys.length c2 ys rfl h2 9 Trym.underlying9
  clear h1 h2
  go_enter Trym.func55, Trym.ntmps55
  go_wp2
  go_ret
  exact ⟨_, rfl, rfl⟩

set_option maxHeartbeats 400000 in
theorem prefix51 (b1 o1 c1 b2 o2 c2 : Nat) (xs ys : List Int) (w : World) (hn : xs.length ≤ c1) (hb : xs.length ≤ 1048576) (hy : ys.length = 2) (h1 : ∀ i, i < xs.length → w.cell? ⟨b1, o1 + i, none⟩ = some (.int .u8 (xs.getD i 0))) (h2 : ∀ i, i < ys.length → w.cell? ⟨b2, o2 + i, none⟩ = some (.int .u8 (ys.getD i 0))) :
    Calls Trym.prog 51 #[.slice (some ⟨b1, o1, none⟩) xs.length c1, .slice (some ⟨b2, o2, none⟩) 2 c2] w fun e w' => ∃ r : Bool, e = .returned (.bool r) ∧ w' = w := by
  by_cases h : 2 ≤ xs.length
  · have he := equal55 b1 o1 c1 b2 o2 c2 (xs.take 2) ys w (fun i hi => by
      have hi2 : i < 2 := by simp at hi; omega
      rw [h1 i (by omega)]
      simp [hi2]) h2
    rw [hy, show (xs.take 2).length = 2 by simp; omega] at he
    clear h1 h2 hy
    go_enter Trym.func51, Trym.ntmps51
    go_wp2_with (go_at_call 55; refine he.mono ?_; rintro e w' ⟨r, rfl, rfl⟩)
    go_ret
    exact ⟨_, rfl, rfl⟩
  · clear h1 h2 hy
    go_enter Trym.func51, Trym.ntmps51
    go_wp2
    go_ret
    exact ⟨.inl rfl, rfl⟩

theorem run59 (b o n c : Nat) (xs : List Int) (hx : xs.length = n) (w : World) (hc : ∀ i, i < n → w.cell? ⟨b, o + i, none⟩ = some (.int .u8 (xs.getD i 0))) (cv : Int) :
    (callFunc 59 #[.slice (some ⟨b, o, none⟩) n c, .int .u8 cv]).run Trym.prog w = .ok (.value (.int .i64 (Lib.indexByte (Lib.bytesOf xs) cv.toNat.toUInt8))) w := by
  rw [run_callFunc_indexByte Trym.func59 (by kernel_rfl) (by kernel_rfl) (by kernel_rfl) (by kernel_rfl), Lib.run_indexByteSlice w b o n c xs hx hc cv]
  rfl

theorem indexByte_lt (l : List UInt8) (c : UInt8) : Lib.indexByte l c < l.length := by
  induction l with
  | nil => show (-1 : Int) < 0; decide
  | cons b l ih =>
    unfold Lib.indexByte
    simp only [List.length_cons]
    split
    · omega
    · split <;> omega

set_option maxHeartbeats 400000 in
theorem index52 (b o n c : Nat) (xs : List Int) (hx : xs.length = n) (w : World) (hc : ∀ i, i < n → w.cell? ⟨b, o + i, none⟩ = some (.int .u8 (xs.getD i 0))) (cv : Int) :
    Calls Trym.prog 52 #[.slice (some ⟨b, o, none⟩) n c, .int .u8 cv] w fun e w' => ∃ r : Int, e = .returned (.int .i64 r) ∧ w' = w ∧ -1 ≤ r ∧ r < n := by
  have h59 := run59 b o n c xs hx w hc cv
  have hge := Lib.indexByte_ge (Lib.bytesOf xs) cv.toNat.toUInt8
  have hlt := indexByte_lt (Lib.bytesOf xs) cv.toNat.toUInt8
  have hl : (Lib.bytesOf xs).length = n := by rw [← hx]; simp [Lib.bytesOf]
  rw [hl] at hlt
  obtain ⟨r, HR⟩ : ∃ r, Hid (Lib.indexByte (Lib.bytesOf xs) cv.toNat.toUInt8 = r) := ⟨_, rfl⟩
  rw [HR.out] at h59 hge hlt
  clear hx hc hl HR
  go_enter Trym.func52, Trym.ntmps52
  go_wp2
  go_ret
  exact ⟨_, rfl, rfl, hge, hlt⟩

theorem index53w (s : ByteArray) (c : Int) (w : World) :
    Calls Trym.prog 53 #[.string s, .int .u8 c] w fun e w' => ∃ r : Int, e = .returned (.int .i64 r) ∧ w' = w :=
  (index53 s c w).mono fun _ _ ⟨h1, h2⟩ => ⟨_, h1, h2⟩

/-- the line from i on, as cells -/
theorem tail_cells {w : World} {b off i : Nat} {zs : List Int} (h : ∀ k, k < zs.length → w.cell? ⟨b, off + k, none⟩ = some (.int .u8 (zs.getD k 0))) :
    ∀ k, k < (zs.drop i).length → w.cell? ⟨b, off + i + k, none⟩ = some (.int .u8 ((zs.drop i).getD k 0)) := by
  intro k hk
  simp at hk
  rw [Nat.add_assoc, h (i + k) (by omega)]
  simp

set_option maxHeartbeats 1000000 in
theorem prop46 (a : Option Addr) (zs : List Int) (cap i : Nat) (w : World) (hl : Ln w a zs) (hz : zs.length ≤ 1048576) (hcap : zs.length ≤ cap) (hi : i < zs.length) :
    Calls Trym.prog 46 #[.slice a zs.length cap, .int .i64 i] w fun e w' => ∃ j : Nat, e = .returned (.int .i64 j) ∧ i < j ∧ j ≤ zs.length ∧ Below w.heap.size w w' := by
  rcases hl with rfl | ⟨b, off, rfl, hc⟩
  · simp at hi
  have hblt := cell_lt (hc i hi)
  have htl := tail_cells (i := i) hc
  have hci := hc i hi
  have kc := fun (w : World) (C : Array Value) (n c : Nat) => Lib.run_convert_bytes_const (P := Trym.prog) w 23 5 C n c Trym.underlying23 Trym.underlying5
  have hdl : (zs.drop i).length = zs.length - i := List.length_drop
  have halloc : ∀ o, Below w.heap.size w (w.alloc o) := fun o => (Below.refl _ _).alloc (Nat.le_refl _) o
  have htl1 : ∀ o k, k < zs.length - i → (w.alloc o).cell? ⟨b, off + i + k, none⟩ = some (.int .u8 ((zs.drop i).getD k 0)) := fun o k hk => ((halloc o).cell (p := ⟨b, off + i + k, none⟩) hblt).trans (htl k (by omega))
  have h51 := prefix51 b (off + i) (cap - i) w.heap.size 0 2 (zs.drop i) [33, 60] (w.alloc (.cells #[.int .u8 33, .int .u8 60] 5 (2, 3))) (by omega) (by omega) rfl (fun k hk => htl1 _ k (by omega))
    (fun k hk => by
      match k, hk with
      | 0, _ => rw [World.cell?_alloc_mark]; rfl
      | 1, _ => rw [World.cell?_alloc_mark]; rfl)
  have h52 := index52 b (off + i) (zs.length - i) (cap - i) (zs.drop i) hdl (w.alloc (.cells #[.int .u8 33, .int .u8 60] 5 (2, 3))) (htl1 _) 62
  rw [hdl] at h51
  have hcell1 : ∀ o k, k < zs.length → (w.alloc o).cell? ⟨b, off + k, none⟩ = some (.int .u8 (zs.getD k 0)) := fun o k hk => ((halloc o).cell (p := ⟨b, off + k, none⟩) hblt).trans (hc k hk)
  have hci1 := fun o => hcell1 o i hi
  have HC1 : Hid (∀ o k, k < zs.length → (w.alloc o).cell? ⟨b, off + k, none⟩ = some (.int .u8 (zs.getD k 0))) := hcell1
  obtain ⟨ci, HCi⟩ : ∃ c, Hid (zs.getD i 0 = c) := ⟨_, rfl⟩
  simp only [HCi.out] at hci1
  clear hcell1 htl1 htl hc hdl hci
  have h33 : (ci == 33) = true ∨ (ci == 33) = false := by cases (ci == 33) <;> simp
  rcases h33 with h33 | h33
  all_goals
    go_enter Trym.func46, Trym.ntmps46
    go_wp2_with (first
      | (go_at_call 51; refine h51.mono ?_; rintro e wx ⟨r, rfl, hwx⟩; have hwx := hwx.symm; subst hwx)
      | (go_at_call 52; refine h52.mono ?_; rintro e wx ⟨r2, rfl, hwx, hr1, hr2⟩; have hwx := hwx.symm; subst hwx))
    · go_ret
      exact ⟨i + r2.toNat + 1, ret_int (by omega), by omega, by omega, halloc _⟩
    · go_ret
      exact ⟨zs.length, rfl, hi, Nat.le_refl _, halloc _⟩
    · obtain rfl : r = false := by assumption
      go_loop [1] (fun t => ∃ k : Nat, i < k ∧ k ≤ zs.length ∧ t = .int .i64 k) (fun t => zs.length - (intOf t).toNat)
      case atStart => exact ⟨i + 1, by omega, by omega, by go_num⟩
      case round =>
        obtain ⟨k, hik, hk, rfl⟩ := hrel
        by_cases hlt : k < zs.length
        · have hck := fun o => HC1.out o k hlt
          obtain ⟨c, HC⟩ : ∃ c, Hid (zs.getD k 0 = c) := ⟨_, rfl⟩
          simp only [HC.out] at hck
          go_wp2_with (go_at_call 53; refine (index53w _ _ _).mono ?_; rintro e wx ⟨r3, rfl, hwx⟩; have hwx := hwx.symm; subst hwx)
          all_goals first
            | (go_ret; exact ⟨k, rfl, by omega, by omega, halloc _⟩)
            | (go_round; (case rel => exact ⟨k + 1, by omega, by omega, by go_num⟩); (case measure => simp [intOf]; omega))
        · go_wp2
          go_ret
          exact ⟨k, rfl, by omega, by omega, halloc _⟩
end Go.Proofs.Qxb6000713aMods
