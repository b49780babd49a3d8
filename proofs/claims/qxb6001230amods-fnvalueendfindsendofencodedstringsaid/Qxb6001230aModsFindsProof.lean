/-
  PROOF: the given shell, its hole filled; the closed facts split ('closed').
-/
import Derived.Test.Qxb6001230aModsWf
import Derived.Test.Qxb6001230aModsIo
import Derived.WalkKit
import Derived.ProofKit
import Derived.OpenShut
import Derived.ShutString
import Derived.ChangeOld
import Derived.Below
namespace Go.Proofs.Qxb6001230aMods.fnValueEndFindsEndOfEncodedString
open Go.ChangeShapes Go.WideShapes Go.ChangeAt Go.RowKit
open Go.ChangeMaps (open_string shut_string)
set_option linter.unusedVariables false

theorem own : ownKnob Trym.prog.godebug = none := by kernel_rfl
theorem laidOut : laidOutB Trym.prog = true := by kernel_rfl

/-- WHAT THE WALK IS TOLD OF A SLICE OF INTEGERS THAT CAME IN: it is nil; or it leads to a row of 'cap' cells, the numbers 'zs' (the first 'len' are its elements, the rest its spare room), each fitting its kind. -/
def IsRow (k : IntKind) (w : World) (a : Option Addr) (len cap : Nat) (zs : List Int) : Prop :=
  (a = none ∧ len = 0 ∧ cap = 0 ∧ zs = []) ∨
  ∃ x, a = some x ∧ len ≤ cap ∧ cap ≤ maxLen ∧ zs.length = cap ∧ (∀ i, i < zs.length → w.cell? (x.add i) = some (.int k (zs.getD i 0))) ∧ ∀ n ∈ zs, (Lit.int k n).wf = true

/-- what came in, cut to its elements -/
theorem row_line {w : World} {a : Option Addr} {len cap : Nat} {z : List Int} (h : IsRow .u8 w a len cap z) :
    ∃ zs : List Int, zs.length = len ∧ len ≤ maxLen ∧ (a = none → zs = []) ∧ (∀ y, a = some y → ∀ k, k < zs.length → w.cell? (y.add k) = some (.int .u8 (zs.getD k 0))) ∧ ∀ z ∈ zs, 0 ≤ z ∧ z ≤ 255 := by
  rcases h with ⟨rfl, rfl, rfl, rfl⟩ | ⟨x, rfl, hle, hmx, hlen, hc, hwf⟩
  · exact ⟨[], rfl, Nat.zero_le _, (fun _ => rfl), (fun y hy => by cases hy), (fun z hz => by cases hz)⟩
  · have hl : (z.take len).length = len := by simp; omega
    refine ⟨z.take len, hl, Nat.le_trans hle hmx, (fun h => by cases h), (fun y hy k hk => ?_), (fun n hn => bounds_u8 (hwf n (List.mem_of_mem_take hn)))⟩
    cases hy
    rw [hl] at hk
    rw [hc k (by omega)]
    simp [hk]

/-! ### STEP 1: THE WALK: the Go text returns true, AND WRITES NOTHING THAT WAS THERE: 'Below w.heap.size w w'' (Derived/Below.lean: '.refl', '.alloc', '.drew', '.setCell' at a new block, '.trans'). Open each 'IsRow' by 'rcases' AHEAD of 'go_enter'; part every test ahead of the walk. -/
theorem walk (a0 : Option Addr) (len0 cap0 : Nat) (z0 : List Int) (a1 : ByteArray) (a2 : Int) (a3 : Option Addr) (len3 cap3 : Nat) (z3 : List Int) (w : World) (w0 : IsRow .u8 w a0 len0 cap0 z0) (w1 : a1.size ≤ maxLen) (w2 : (Lit.int .i64 a2).wf = true) (w3 : IsRow .u8 w a3 len3 cap3 z3) :
    Calls Trym.prog 4 #[.slice a0 len0 cap0, .string a1, .int .i64 a2, .slice a3 len3 cap3] w fun e w' => e = .returned (.bool true) ∧ Below w.heap.size w w' := by
  have hA : ∃ zs : List Int, zs.length = len0 ∧ len0 ≤ maxLen ∧ (a0 = none → zs = []) ∧ (∀ y, a0 = some y → ∀ k, k < zs.length → w.cell? (y.add k) = some (.int .u8 (zs.getD k 0))) ∧ ∀ z ∈ zs, 0 ≤ z ∧ z ≤ 255 := row_line w0
  have hB : ∃ zs : List Int, zs.length = len3 ∧ len3 ≤ maxLen ∧ (a3 = none → zs = []) ∧ (∀ y, a3 = some y → ∀ k, k < zs.length → w.cell? (y.add k) = some (.int .u8 (zs.getD k 0))) ∧ ∀ z ∈ zs, 0 ≤ z ∧ z ≤ 255 := row_line w3
  obtain ⟨ps, rfl, hm0, hn0, hc0, hb0⟩ := hA
  obtain ⟨ts, rfl, hm3, hn3, hc3, hb3⟩ := hB
  exact main4 a0 ps cap0 a1 a2 a3 ts cap3 w hm0 w1 hm3 hn0 hc0 hb0 hn3 hc3 hb3

/-! ### THE ROW's STEP: WRITTEN OUT: LEAVE IT -/
set_option maxRecDepth 100000 in
theorem lifted (os : Os) (started : os.Started) (H : Type) (enc : TypeId × Value → H) :
    ReturnsInHanded {} Trym.checked os 4 .any (Rows.fnValueEndFindsEndOfEncodedStringSpec.pre6 enc Trym.prog Trym.f4 Rows.fnValueEndFindsEndOfEncodedStringRow.domain false) (Rows.fnValueEndFindsEndOfEncodedStringSpec.post enc Trym.prog Trym.f4 false true false false) := by
  refine returnsInHanded_of_change (C := Trym.checked) own started (by kernel_rfl) Trym.func4
    (ChangeSpec.witness6 (enc := enc) (C := Trym.checked) false ⟨#[], #[.slice none 0 0, .string ByteArray.empty, .int .i64 0, .slice none 0 0], []⟩ 8 (by kernel_rfl) (by kernel_rfl) (by kernel_rfl) (by kernel_rfl)) ?_
  intro W base args ds gs before hval0 hW hcnd _
  have hval : ∀ (j : Nat) t v, Trym.f4.params[j]? = some t → args[j]? = some v → Value.okWide Trym.prog W .any base t v := hval0
  have hW' := hW
  obtain ⟨p, q, hA0, hV, rfl, hfz, hnd⟩ := hW
  have hA : DataW.TrodAll enc Trym.prog W 0 (fun _ => true) true Trym.f4.params.toList args.toList ds p := hA0
  rw [Trym.params4] at hA hval
  obtain ⟨v0, vs0, d0, ds0, p0, q0, hargs, rfl, rfl, h0, r0⟩ := trodAll_cons hA
  obtain ⟨v1, vs1, d1, ds1, p1, q1, rfl, rfl, rfl, h1, r1⟩ := trodAll_cons r0
  obtain ⟨v2, vs2, d2, ds2, p2, q2, rfl, rfl, rfl, h2, r2⟩ := trodAll_cons r1
  obtain ⟨v3, vs3, d3, ds3, p3, q3, rfl, rfl, rfl, h3, r3⟩ := trodAll_cons r2
  obtain ⟨rfl, rfl, rfl⟩ := trodAll_nil r3
  obtain rfl : args = #[v0, v1, v2, v3] := by cases args; simp_all
  obtain ⟨rfl, rfl⟩ := trodVars_none hV
  obtain ⟨a0, len0, cap0, rfl⟩ := okWide_slice Trym.underlying22 (hval 0 22 v0 rfl rfl)
  have k0 := h0
  have lt0 : ∀ x ∈ p0, x.block < W.heap.size := by obtain ⟨m, hm⟩ := k0; exact DataW.trod_lt m _ _ _ hm
  obtain ⟨z0, w0⟩ : ∃ zs, IsRow .u8 W a0 len0 cap0 zs := by
    obtain ⟨fuel, hf⟩ := h0
    rcases open_ints Trym.underlying22 Trym.underlying5 (by kernel_rfl) hf with ⟨hcs, _⟩ | ⟨x, l, c, zs, hcs, _, hl, hm, hz, _, hcell, hwz⟩
    · simp [Value.cells] at hcs
      obtain ⟨rfl, rfl, rfl⟩ := hcs
      exact ⟨[], .inl ⟨rfl, rfl, rfl, rfl⟩⟩
    · simp [Value.cells] at hcs
      obtain ⟨rfl, rfl, rfl⟩ := hcs
      exact ⟨zs, .inr ⟨_, rfl, hl, hm, by simpa using hz, hcell, hwz⟩⟩
  obtain ⟨a1, rfl, rfl, rfl, w1⟩ := open_string Trym.underlying9 (hval 1 9 v1 rfl rfl) h1
  obtain ⟨a2, rfl, rfl, rfl, w2⟩ := open_int Trym.underlying3 (hval 2 3 v2 rfl rfl) h2
  obtain ⟨a3, len3, cap3, rfl⟩ := okWide_slice Trym.underlying22 (hval 3 22 v3 rfl rfl)
  have k3 := h3
  have lt3 : ∀ x ∈ p3, x.block < W.heap.size := by obtain ⟨m, hm⟩ := k3; exact DataW.trod_lt m _ _ _ hm
  obtain ⟨z3, w3⟩ : ∃ zs, IsRow .u8 W a3 len3 cap3 zs := by
    obtain ⟨fuel, hf⟩ := h3
    rcases open_ints Trym.underlying22 Trym.underlying5 (by kernel_rfl) hf with ⟨hcs, _⟩ | ⟨x, l, c, zs, hcs, _, hl, hm, hz, _, hcell, hwz⟩
    · simp [Value.cells] at hcs
      obtain ⟨rfl, rfl, rfl⟩ := hcs
      exact ⟨[], .inl ⟨rfl, rfl, rfl, rfl⟩⟩
    · simp [Value.cells] at hcs
      obtain ⟨rfl, rfl, rfl⟩ := hcs
      exact ⟨zs, .inr ⟨_, rfl, hl, hm, by simpa using hz, hcell, hwz⟩⟩
  clear hA0 hval0
  refine (walk a0 len0 cap0 z0 a1 a2 a3 len3 cap3 z3 W w0 w1 w2 w3).mono fun e W' ⟨he, bel⟩ => ?_
  subst he
  exact ⟨_, rfl, _, _, _, [], _, [], hW', trodAll_mk1 (shut_bool Trym.underlying4 _), (trodAll_cons_mk (Below.trod laidOut (by kernel_rfl) (of_decide_eq_true (by kernel_rfl)) k0 bel lt0) (trodAll_cons_mk (shut_string Trym.underlying9 w1) (trodAll_cons_mk (shut_int Trym.underlying3 w2) (trodAll_cons_mk (Below.trod laidOut (by kernel_rfl) (of_decide_eq_true (by kernel_rfl)) k3 bel lt3) trodAll_mk0)))), rfl, bel.frame _, fun h => by cases h⟩

theorem f_enter : Trym.pinned.checked.prog.mayEnter = true := io_mayEnter
theorem f_make : (Trym.pinned.checked.prog.make == some Rows.fnValueEndFindsEndOfEncodedStringRow.make) = true := by
  rw [show Trym.pinned.checked.prog.make = some (.lifted ["publicsums"]) from io_make]
  kernel_rfl
theorem f_lifted : (Rows.fnValueEndFindsEndOfEncodedStringRow.lifted == Trym.pinned.checked.prog.liftsFinal) = true := by
  rw [show Trym.pinned.checked.prog.liftsFinal = false from io_liftsFinal]
  kernel_rfl
theorem closed : joinedFacts Trym.pinned.checked.prog 4 Trym.f4 Rows.fnValueEndFindsEndOfEncodedStringSpec Rows.fnValueEndFindsEndOfEncodedStringRow = true := by
  unfold joinedFacts
  repeat' (with_reducible refine and_mk ?_ ?_)
  all_goals first
    | (with_reducible exact f_enter)
    | (with_reducible exact f_make)
    | (with_reducible exact f_lifted)
    | as_aux_lemma => kernel_rfl

theorem over : Rows.fnValueEndFindsEndOfEncodedStringRow.holds Trym.pinned (OpenSpec.ofChange Rows.fnValueEndFindsEndOfEncodedStringSpec) :=
  OpenClaim.holds_of_wide 4 Trym.f4 rfl rfl rfl rfl rfl rfl rfl ⟨rfl, rfl, rfl, rfl, rfl⟩ rfl rfl rfl rfl rfl (by as_aux_lemma => kernel_rfl) Trym.func4 closed
    (of_decide_eq_true (by kernel_rfl)) (by unfold Func.isWrapper; first | (rw [if_pos (by decide +kernel)]; kernel_rfl) | (rw [if_neg (by decide +kernel)]; exact ⟨rfl, rfl⟩))
    (fun os started H enc _ => lifted os started H enc)

/-- ████ THE STATEMENT ████ -/
theorem proved : Rows.FnValueEndFindsEndOfEncodedStringSaid := over
end Go.Proofs.Qxb6001230aMods.fnValueEndFindsEndOfEncodedString
