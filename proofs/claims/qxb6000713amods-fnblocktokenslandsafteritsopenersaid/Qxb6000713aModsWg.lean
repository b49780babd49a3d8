import Derived.Test.Qxb6000713aModsWf
import Derived.Laws.CopyOwn
import Derived.Deep.DeepCutAuto
namespace Go.Proofs.Qxb6000713aMods
open Go.RowKit

theorem Trym.info5 : (Trym.prog.info? 5).map (fun i => (i.zero, i.size, i.bytes)) = some (some (.int .u8 0), 1, 1) := by kernel_rfl

/-- bytes as cells (a name of its own: the walk leaves it standing) -/
def u8s (zs : List Int) : List Value := zs.map (Value.int .u8)
theorem u8s_length (zs : List Int) : (u8s zs).length = zs.length := by simp [u8s]
theorem u8s_one (zs : List Int) : ∀ v ∈ u8s zs, v.oneCell' = true := by
  intro v hv
  simp only [u8s, List.mem_map] at hv
  obtain ⟨z, _, rfl⟩ := hv
  rfl
theorem u8s_at (zs : List Int) (j : Nat) (v : Value) (h : (u8s zs)[j]? = some v) : j < zs.length ∧ v = .int .u8 (zs.getD j 0) := by
  have hj : j < (u8s zs).length := by
    rcases Nat.lt_or_ge j (u8s zs).length with h' | h'
    · exact h'
    · rw [List.getElem?_eq_none h'] at h; cases h
  have hj' : j < zs.length := by simpa [u8s] using hj
  refine ⟨hj', ?_⟩
  rw [List.getElem?_eq_getElem hj] at h
  simp only [Option.some.injEq] at h
  rw [← h]
  simp [u8s, List.getElem?_eq_getElem hj']

theorem made_block {w : World} {B g n : Nat} {xs : List Value} (h : w.ownsRow B 5 1 (.slice (some ⟨g, 0, none⟩) n n) n xs) : w.heap[g]? = some (.cells xs.toArray 5 (0, 0)) ∧ xs.length = n := by
  obtain ⟨h1, h2⟩ := h
  rcases h2 with ⟨h2, _⟩ | ⟨g', cap, cur, hv, hg, hh, hn, hm, hs, ht⟩
  · cases h2
  · simp only [Value.slice.injEq, Option.some.injEq, Addr.mk.injEq, and_true, true_and] at hv
    obtain ⟨rfl, rfl⟩ := hv
    rw [List.take_of_length_le (by simp [hs])] at ht
    exact ⟨by rw [hh, ← ht], by simpa using h1⟩

theorem splice_all {L cs : List Value} (h : L.length = cs.length) : splice L 0 cs = cs := by
  unfold splice
  simp [← h]

theorem ln_block {w : World} {g : Nat} {zs : List Int} {t : TypeId} {m : Nat × Nat} (h : w.heap[g]? = some (.cells (u8s zs).toArray t m)) : Ln w (some ⟨g, 0, none⟩) zs := by
  refine .inr ⟨g, 0, rfl, fun k hk => ?_⟩
  simp [World.cell?, h, u8s, List.getElem?_eq_getElem hk]

/-- the source's cells, as the copy asks them -/
theorem src_cells {w : World} {x : Addr} {zs : List Int} (h : ∀ k, k < zs.length → w.cell? (x.add k) = some (.int .u8 (zs.getD k 0))) : ∀ j v, (u8s zs)[j]? = some v → w.cell? (x.add j) = some v := by
  intro j v hj
  obtain ⟨h1, rfl⟩ := u8s_at zs j v hj
  exact h j h1

theorem cell_lt' {w : World} {p : Addr} {v : Value} (h : w.cell? p = some v) : p.block < w.heap.size := by
  rcases Nat.lt_or_ge p.block w.heap.size with h' | h'
  · exact h'
  · simp [World.cell?, Array.getElem?_eq_none h'] at h
/-- behind make: the old cells -/
theorem src_later {w w1 : World} {x : Addr} {zs : List Int} (h : ∀ k, k < zs.length → w.cell? (x.add k) = some (.int .u8 (zs.getD k 0))) (hb : Below w.heap.size w w1) : ∀ k, k < zs.length → w1.cell? (x.add k) = some (.int .u8 (zs.getD k 0)) := by
  intro k hk
  rw [hb.cell (p := x.add k) ?_]
  · exact h k hk
  · exact cell_lt' (h k hk)

theorem copied {w : World} {g : Nat} {L : List Value} {zs : List Int} {t : TypeId} (h : Hid (w.heap[g]? = some (.cells (splice L 0 (u8s zs)).toArray t))) (hL : L.length = zs.length) : Ln w (some ⟨g, 0, none⟩) zs := by
  have h' := h.out
  rw [splice_all (by rw [hL, u8s_length])] at h'
  exact ln_block h'
end Go.Proofs.Qxb6000713aMods
