import Derived.Test.Qxb6000713aModsWc
namespace Go.Proofs.Qxb6000713aMods
open Go.RowKit

/-- what flowTokens leaves, on the law's lines -/
def FlowEnd (zs : List Int) (i : Nat) (fd : Int) (r : Int) (st' fd' : Int) : Prop :=
  ∃ E : Nat, i ≤ E ∧ E ≤ zs.length ∧ (∀ j, i ≤ j → j < E → 1 ≤ fd + (P zs j - P zs i)) ∧
    ((r = -1 ∧ E = zs.length ∧ st' = 5 ∧ fd' = fd + (P zs E - P zs i) ∧ 1 ≤ fd') ∨ (r = E ∧ i < E ∧ st' = 0 ∧ fd' = 0 ∧ fd + (P zs E - P zs i) = 0))

/-- the loop's plain limb -/
def FlowAt (zs : List Int) (i k : Nat) (fd d : Int) : Prop :=
  i ≤ k ∧ k ≤ zs.length ∧ d = fd + (P zs k - P zs i) ∧ ∀ j, i ≤ j → j ≤ k → 1 ≤ fd + (P zs j - P zs i)

theorem FlowAt.zero {zs : List Int} {i : Nat} {fd : Int} (hi : i ≤ zs.length) (h : 1 ≤ fd) : FlowAt zs i i fd fd :=
  ⟨Nat.le_refl _, hi, by omega, fun j a b => by have e : j = i := by omega
                                                subst e; omega⟩
theorem FlowAt.skip {zs : List Int} {i k : Nat} {fd d : Int} (h : FlowAt zs i k fd d) : FlowAt zs i (sk zs k) fd d := by
  obtain ⟨h1, h2, h3, h4⟩ := h
  obtain ⟨s1, s2, _, s4⟩ := sk_spec zs _ k rfl h2
  refine ⟨by omega, s2, by rw [s4 _ s1 (Nat.le_refl _)]; exact h3, fun j a b => ?_⟩
  by_cases e : j ≤ k
  · exact h4 j a e
  · rw [s4 j (by omega) b]; exact h4 k h1 (Nat.le_refl _)
theorem FlowAt.step {zs : List Int} {i k : Nat} {fd d : Int} (h : FlowAt zs i k fd d) (hk : k < zs.length) (hd : 1 ≤ d + bv (zs.getD k 0)) : FlowAt zs i (k + 1) fd (d + bv (zs.getD k 0)) := by
  obtain ⟨h1, h2, h3, h4⟩ := h
  have hp := P_succ zs k hk
  refine ⟨by omega, by omega, by rw [hp]; omega, fun j a b => ?_⟩
  by_cases e : j ≤ k
  · exact h4 j a e
  · have e : j = k + 1 := by omega
    subst e; rw [hp]; omega
theorem FlowAt.stop {zs : List Int} {i k : Nat} {fd d : Int} (h : FlowAt zs i k fd d) (hk : k < zs.length) (hd : d + bv (zs.getD k 0) = 0) : FlowEnd zs i fd ((k : Int) + 1) 0 0 := by
  obtain ⟨h1, h2, h3, h4⟩ := h
  have hp := P_succ zs k hk
  refine ⟨k + 1, by omega, by omega, fun j a b => h4 j a (by omega), .inr ⟨by omega, by omega, rfl, rfl, by rw [hp]; omega⟩⟩
theorem FlowAt.over {zs : List Int} {i : Nat} {fd d : Int} (h : FlowAt zs i zs.length fd d) : FlowEnd zs i fd (-1) 5 d := by
  obtain ⟨h1, h2, h3, h4⟩ := h
  have := h4 zs.length h1 (Nat.le_refl _)
  exact ⟨zs.length, h1, Nat.le_refl _, fun j a b => h4 j a (by omega), .inl ⟨rfl, rfl, rfl, h3, by omega⟩⟩
theorem P_bd (zs : List Int) (i : Nat) : ∀ n, i + n ≤ zs.length → P zs (i + n) - P zs i ≤ n ∧ -(n : Int) ≤ P zs (i + n) - P zs i := by
  intro n
  induction n with
  | zero => intro _; simp
  | succ n ih =>
    intro h
    have hp := P_succ zs (i + n) (by omega)
    have hb := bv_bd (zs.getD (i + n) 0)
    have := ih (by omega)
    rw [← Nat.add_assoc, hp]
    omega
theorem FlowAt.bd {zs : List Int} {i k : Nat} {fd d : Int} (h : FlowAt zs i k fd d) (hz : zs.length ≤ 1048576) (hf : fd ≤ 1073741824) : 1 ≤ d ∧ d ≤ 1074790400 := by
  obtain ⟨h1, h2, h3, h4⟩ := h
  have := h4 k h1 (Nat.le_refl _)
  have hb := P_bd zs i (k - i) (by omega)
  have e : i + (k - i) = k := by omega
  rw [e] at hb
  omega

set_option maxHeartbeats 1000000 in
set_option maxRecDepth 100000 in
theorem flow37 (bs : Nat) (a : Option Addr) (zs : List Int) (cap i : Nat) (ind : Value) (fd si kc : Int) (ka : Bool) (w : World)
    (hs : Sc w bs 5 ind fd si kc ka) (hl : Lx bs w a zs) (hz : zs.length ≤ 1048576) (hi : i ≤ zs.length) (hf1 : 1 ≤ fd) (hf2 : fd ≤ 1073741824)
    (hok : ∀ k, i ≤ k → k < zs.length → okB (zs.getD k 0)) :
    Calls Trym.prog 37 #[.pointer (some ⟨bs, 0, none⟩), .slice a zs.length cap, .int .i64 i] w fun e w' =>
      ∃ (r st' fd' : Int) (ka' : Bool), e = .returned (.int .i64 r) ∧ Sc w' bs st' ind fd' si kc ka' ∧ Only bs w w' ∧ FlowEnd zs i fd r st' fd' := by
  go_enter Trym.func37, Trym.ntmps37
  go_wp2
  go_loopw [2] (fun t wr => ∃ (k : Nat) (d : Int), t = .int .i64 k ∧ Sc wr bs 5 ind d si kc ka ∧ Only bs w wr ∧ FlowAt zs i k fd d) (fun t _ => zs.length - (intOf t).toNat)
  case atStart => exact ⟨i, fd, rfl, hs, Only.refl _ _, FlowAt.zero hi hf1⟩
  case round =>
    obtain ⟨k, d, rfl, hsr, hor, hat⟩ := hrel
    have hlr := hl.only hor
    have hk := hat.2.1
    have hskip := fun c => skip41 a zs c k wr hlr.ln hz hk
    obtain ⟨s1, s2, s3, _⟩ := sk_spec zs _ k rfl hk
    have hat2 := hat.skip
    obtain ⟨m, HM⟩ : ∃ m, Hid (sk zs k = m) := ⟨_, rfl⟩
    rw [HM.out] at s1 s2 s3 hat2
    have hskip' : ∀ c, Calls Trym.prog 41 #[.slice a zs.length c, .int .i64 k] wr fun e w' => e = .returned (.int .i64 m) ∧ w' = wr := by
      intro c; have := hskip c; rw [HM.out] at this; exact this
    clear hskip HM hat
    have hbd := hat2.bd hz hf2
    obtain ⟨hd1, hd2⟩ := hbd
    have c0 := hsr.c0
    have c2 := hsr.c2
    have c5 := hsr.c5
    have f0 := hsr.fr 0
    have f2 := hsr.fr 2
    have f5 := hsr.fr 5
    by_cases hm : m = zs.length
    · have hend : FlowEnd zs i fd (-1) 5 d := by rw [hm] at hat2; exact hat2.over
      have hmm : ((m : Int) == (zs.length : Int)) = true := by simp [hm]
      clear hm s3 hat2
      go_wp2_with (go_at_call 41; refine (hskip' _).mono ?_; rintro e w' ⟨rfl, rfl⟩)
      go_ret
      exact ⟨_, _, _, _, rfl, hsr, hor, hend⟩
    · have hml : m < zs.length := by omega
      have hbl := s3 hml
      have hokm := hok m (by have := hat2.1; omega) hml
      have hmm : ((m : Int) == (zs.length : Int)) = false := by simp; omega
      rcases hlr with rfl | ⟨b, off, rfl, _, hc⟩
      · simp at hml
      have hcm := hc m hml
      have hstep := hat2.step hml
      have hstop := hat2.stop hml
      clear hm s3 hat2 hc hok hl
      obtain ⟨c, HC⟩ : ∃ c, Hid (zs.getD m 0 = c) := ⟨_, rfl⟩
      rw [HC.out] at hcm hbl hokm hstep hstop
      rcases hokm with h | rfl | rfl | rfl | rfl | rfl | rfl | rfl
      · rw [h] at hbl; cases hbl
      · have hs2 : FlowAt zs i (m + 1) fd (d + 1) := hstep (by show 1 ≤ d + 1; omega)
        clear hstep hstop
        go_wp2_with (go_at_call 41; refine (hskip' _).mono ?_; rintro e w' ⟨rfl, rfl⟩)
        go_roundw
        case rel => exact ⟨m + 1, d + 1, by go_num, hsr.s2 _, hor.set _ _, hs2⟩
        case measure => simp [intOf]; omega
      · by_cases hd : d = 1
        · subst hd
          have hs2 : FlowEnd zs i fd ((m : Int) + 1) 0 0 := hstop rfl
          clear hstep hstop
          go_wp2_with (go_at_call 41; refine (hskip' _).mono ?_; rintro e w' ⟨rfl, rfl⟩)
          go_ret
          exact ⟨_, _, _, _, rfl, ((hsr.s2 _).s0 _).s5 _, ((hor.set _ _).set _ _).set _ _, hs2⟩
        · have hs2 : FlowAt zs i (m + 1) fd (d - 1) := hstep (by show 1 ≤ d - 1; omega)
          have hd' : (d - 1 == 0) = false := by simp; omega
          clear hstep hstop
          go_wp2_with (go_at_call 41; refine (hskip' _).mono ?_; rintro e w' ⟨rfl, rfl⟩)
          go_roundw
          case rel => exact ⟨m + 1, d - 1, by go_num, hsr.s2 _, hor.set _ _, hs2⟩
          case measure => simp [intOf]; omega
      · have hs2 : FlowAt zs i (m + 1) fd (d + 1) := hstep (by show 1 ≤ d + 1; omega)
        clear hstep hstop
        go_wp2_with (go_at_call 41; refine (hskip' _).mono ?_; rintro e w' ⟨rfl, rfl⟩)
        go_roundw
        case rel => exact ⟨m + 1, d + 1, by go_num, hsr.s2 _, hor.set _ _, hs2⟩
        case measure => simp [intOf]; omega
      · by_cases hd : d = 1
        · subst hd
          have hs2 : FlowEnd zs i fd ((m : Int) + 1) 0 0 := hstop rfl
          clear hstep hstop
          go_wp2_with (go_at_call 41; refine (hskip' _).mono ?_; rintro e w' ⟨rfl, rfl⟩)
          go_ret
          exact ⟨_, _, _, _, rfl, ((hsr.s2 _).s0 _).s5 _, ((hor.set _ _).set _ _).set _ _, hs2⟩
        · have hs2 : FlowAt zs i (m + 1) fd (d - 1) := hstep (by show 1 ≤ d - 1; omega)
          have hd' : (d - 1 == 0) = false := by simp; omega
          clear hstep hstop
          go_wp2_with (go_at_call 41; refine (hskip' _).mono ?_; rintro e w' ⟨rfl, rfl⟩)
          go_roundw
          case rel => exact ⟨m + 1, d - 1, by go_num, hsr.s2 _, hor.set _ _, hs2⟩
          case measure => simp [intOf]; omega
      · have hs2 : FlowAt zs i (m + 1) fd d := by have h := hstep (by show 1 ≤ d + 0; omega); simpa [bv] using h
        clear hstep hstop
        go_wp2_with (go_at_call 41; refine (hskip' _).mono ?_; rintro e w' ⟨rfl, rfl⟩)
        go_roundw
        case rel => exact ⟨m + 1, d, by go_num, hsr, hor, hs2⟩
        case measure => simp [intOf]; omega
      · have hs2 : FlowAt zs i (m + 1) fd d := by have h := hstep (by show 1 ≤ d + 0; omega); simpa [bv] using h
        clear hstep hstop
        go_wp2_with (go_at_call 41; refine (hskip' _).mono ?_; rintro e w' ⟨rfl, rfl⟩)
        go_roundw
        case rel => exact ⟨m + 1, d, by go_num, hsr, hor, hs2⟩
        case measure => simp [intOf]; omega
      · have hs2 : FlowAt zs i (m + 1) fd d := by have h := hstep (by show 1 ≤ d + 0; omega); simpa [bv] using h
        clear hstep hstop
        go_wp2_with (go_at_call 41; refine (hskip' _).mono ?_; rintro e w' ⟨rfl, rfl⟩)
        go_roundw
        case rel => exact ⟨m + 1, d, by go_num, hsr, hor, hs2⟩
        case measure => simp [intOf]; omega
end Go.Proofs.Qxb6000713aMods
