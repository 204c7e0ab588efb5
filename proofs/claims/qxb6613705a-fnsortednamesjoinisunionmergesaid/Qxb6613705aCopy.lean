/-
  What the law's own walk wants outside itself: a slice of texts that the call owns, as 'Rd'; the row behind a copy.
-/
import Derived.Test.Qxb6613705aNames
import Derived.Laws.CopyOwn
import Derived.Deep.DeepCutAuto
namespace Go.Proofs.Qxb6613705a
open Go.RowKit

theorem size9 : (Try.prog.info? 9).map (·.size) = some 1 := by kernel_rfl

/-- A row of the call's own that holds nothing but ts, read as texts. -/
theorem rd_of_block {w : World} {g : Nat} {e : TypeId} {fr : Nat × Nat} {ts : List Txt} (h : w.heap[g]? = some (.cells (ts.map encStr).toArray e fr)) : Rd w.heap.size w (some ⟨g, 0, none⟩) ts := by
  intro i x hx
  refine ⟨g, 0, rfl, (Array.getElem?_eq_some_iff.1 h).1, ?_⟩
  rw [cell_of_row w g (0 + i) _ e fr h]
  simp [hx]

/-- A slice that the call owns, read as texts. -/
theorem rd_of_own {w : World} {base g cap : Nat} {ts : List Txt} (h : w.ownsRow base 9 1 (.slice (some ⟨g, 0, none⟩) ts.length cap) ts.length (ts.map encStr)) : Rd w.heap.size w (some ⟨g, 0, none⟩) ts := by
  intro i x hx
  have hi : i < ts.length := (List.getElem?_eq_some_iff.1 hx).1
  refine ⟨g, 0, rfl, (h.lt g rfl).2, ?_⟩
  rw [Nat.zero_add, h.cellAt i (by omega), List.getElem?_map, hx]
  rfl

/-- A row that 'make' made whole. -/
theorem block_of_full {w : World} {base g n : Nat} {e : TypeId} {xs : List Value} (h : w.ownsRow base e 1 (.slice (some ⟨g, 0, none⟩) n n) n xs) : w.heap[g]? = some (.cells xs.toArray e (0, 0)) := by
  rcases h.2 with ⟨h', _⟩ | ⟨g', cap', cur, h', _, hg, _, _, hcs, ht⟩
  · cases h'
  · simp only [Value.slice.injEq, Option.some.injEq, Addr.mk.injEq, and_true, true_and] at h'
    obtain ⟨rfl, rfl⟩ := h'
    rw [hg, ← ht, List.take_of_length_le (by simpa using Nat.le_of_eq hcs)]

theorem splice_all {α : Type} (L cs : List α) (h : L.length = cs.length) : splice L 0 cs = cs := by
  unfold splice
  rw [Nat.zero_add, List.drop_eq_nil_of_le (by omega)]
  simp

/-- The copied cells lie at the source. -/
theorem src_of_rd {B : Nat} {w : World} {ao : Option Addr} {xs : List Txt} (h : Rd B w ao xs) : 0 < (xs.map encStr).length → ∃ ad, ao = some ad ∧ ∀ j v, (xs.map encStr)[j]? = some v → w.cell? (ad.add j) = some v := by
  intro h0
  have h0' : 0 < xs.length := by simpa using h0
  obtain ⟨g, off, rfl, _, _⟩ := h 0 _ (List.getElem?_eq_getElem h0')
  refine ⟨_, rfl, fun j v hv => ?_⟩
  rw [List.getElem?_map] at hv
  cases hx : xs[j]? with
  | none => rw [hx] at hv; cases hv
  | some x =>
    rw [hx] at hv
    obtain ⟨g', off', e, _, hc⟩ := h j x hx
    cases e
    cases hv
    have e2 : (⟨g, off, none⟩ : Addr).add j = ⟨g, off + j, none⟩ := by unfold Addr.add; split <;> simp_all
    rw [e2]
    exact hc

end Go.Proofs.Qxb6613705a
