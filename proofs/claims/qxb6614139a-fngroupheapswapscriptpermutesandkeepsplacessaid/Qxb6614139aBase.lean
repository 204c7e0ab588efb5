/-
  The heap of groups in memory, and what a swap does to it: facts on cells alone, outside every walk.
  S: the block of the heap's array, O: of the other array's, P t: of group t (its next in cell 2, its at in cell 3). H k: the number of the group at place k of the heap.
-/
import Derived.Test.Qxb6614139aRows
import Derived.WalkKit
import Derived.ProofKit
import Derived.Below
import Derived.WalkSpells
import Derived.WalkLawsBesides
import Derived.BigQuiet
import Derived.Deep.QuietTactic
import Derived.RegionTactic
import Derived.ChangeAlike
namespace Go.Proofs.Qxb6614139a
open Go.RowKit

theorem cell_set {w : World} {p q : Addr} {v u : Value} (h : w.cell? q = some u) : (w.setCell p v).cell? q = some (if p = q then v else u) := by
  by_cases e : p = q
  · subst e
    rw [if_pos rfl]
    exact World.cell?_setCell_same w p v h
  · rw [if_neg e, World.cell?_setCell_other w p q v e]
    exact h

/-- Places i and j exchanged. -/
def sw (H : Nat → Nat) (i j : Nat) : Nat → Nat := fun k => if k = i then H j else if k = j then H i else H k

theorem sw_i (H : Nat → Nat) (i j : Nat) : sw H i j i = H j := by simp [sw]
theorem sw_j (H : Nat → Nat) (i j : Nat) : sw H i j j = H i := by
  unfold sw
  by_cases e : j = i
  · subst e; simp
  · simp [e]
theorem sw_other (H : Nat → Nat) {i j k : Nat} (h1 : k ≠ i) (h2 : k ≠ j) : sw H i j k = H k := by simp [sw, h1, h2]

def ptr (b : Nat) : Value := .pointer (some ⟨b, 0, none⟩)

structure Run (S O n : Nat) (nx : Nat → Int) (P H : Nat → Nat) (w : World) : Prop where
  so : S ≠ O
  ps : ∀ t, t < n → P t ≠ S ∧ P t ≠ O
  inj : ∀ s t, s < n → t < n → P s = P t → s = t
  hlt : ∀ k, k < n → H k < n
  hinj : ∀ k l, k < n → l < n → H k = H l → k = l
  hc : ∀ k, k < n → w.cell? ⟨S, k, none⟩ = some (ptr (P (H k)))
  hf : ∀ k, k < n → w.frozen? ⟨S, k, none⟩ = false
  oc : ∀ k, k < n → w.cell? ⟨O, k, none⟩ = some (ptr (P k))
  gn : ∀ t, t < n → w.cell? ⟨P t, 2, none⟩ = some (.int .i64 (nx t))
  ga : ∀ k, k < n → w.cell? ⟨P (H k), 3, none⟩ = some (.int .i64 k)
  gf : ∀ t, t < n → w.frozen? ⟨P t, 3, none⟩ = false

/-- The four stores of Swap(i, j). -/
def swapped (S : Nat) (P H : Nat → Nat) (i j : Nat) (w : World) : World :=
  (((w.setCell ⟨S, i, none⟩ (ptr (P (H j)))).setCell ⟨S, j, none⟩ (ptr (P (H i)))).setCell ⟨P (H j), 3, none⟩ (.int .i64 i)).setCell ⟨P (H i), 3, none⟩ (.int .i64 j)

theorem sw_lt {n : Nat} {H : Nat → Nat} (h : ∀ k, k < n → H k < n) {i j : Nat} (hi : i < n) (hj : j < n) : ∀ k, k < n → sw H i j k < n := by
  intro k hk
  unfold sw
  split
  · exact h j hj
  · split
    · exact h i hi
    · exact h k hk

theorem sw_inj {n : Nat} {H : Nat → Nat} (h : ∀ k l, k < n → l < n → H k = H l → k = l) {i j : Nat} (hi : i < n) (hj : j < n) : ∀ k l, k < n → l < n → sw H i j k = sw H i j l → k = l := by
  intro k l hk hl e
  unfold sw at e
  split at e <;> split at e <;> (try split at e) <;> (try split at e) <;> first
    | omega
    | (have := h _ _ hj hj e; omega)
    | (have := h _ _ hj hi e; omega)
    | (have := h _ _ hj hl e; omega)
    | (have := h _ _ hi hj e; omega)
    | (have := h _ _ hi hi e; omega)
    | (have := h _ _ hi hl e; omega)
    | (have := h _ _ hk hj e; omega)
    | (have := h _ _ hk hi e; omega)
    | (have := h _ _ hk hl e; omega)

theorem Run.swap {S O n : Nat} {nx : Nat → Int} {P H : Nat → Nat} {w : World} (r : Run S O n nx P H w) {i j : Nat} (hi : i < n) (hj : j < n) : Run S O n nx P (sw H i j) (swapped S P H i j w) := by
  have pi := r.ps _ (r.hlt i hi)
  have pj := r.ps _ (r.hlt j hj)
  refine ⟨r.so, r.ps, r.inj, sw_lt r.hlt hi hj, sw_inj r.hinj hi hj, fun k hk => ?_, fun k hk => ?_, fun k hk => ?_, fun t ht => ?_, fun k hk => ?_, fun t ht => ?_⟩
  · unfold swapped
    rw [cell_set (cell_set (cell_set (cell_set (r.hc k hk))))]
    simp only [Addr.mk.injEq, pi.1, pj.1, false_and, if_false, and_true, true_and, Option.some.injEq]
    by_cases e2 : j = k
    · subst e2; rw [if_pos rfl, sw_j]
    · rw [if_neg e2]
      by_cases e1 : i = k
      · subst e1; rw [if_pos rfl, sw_i]
      · rw [if_neg e1, sw_other H (Ne.symm e1) (Ne.symm e2)]
  · simp [swapped, r.hf k hk]
  · unfold swapped
    rw [cell_set (cell_set (cell_set (cell_set (r.oc k hk))))]
    simp [r.so]
  · have pt := r.ps t ht
    unfold swapped
    rw [cell_set (cell_set (cell_set (cell_set (r.gn t ht))))]
    simp
  · unfold swapped
    have hk' := sw_lt r.hlt hi hj k hk
    have pk := r.ps _ hk'
    obtain ⟨l, hl, e⟩ : ∃ l, l < n ∧ sw H i j k = H l := by
      unfold sw
      split
      · exact ⟨j, hj, rfl⟩
      · split
        · exact ⟨i, hi, rfl⟩
        · exact ⟨k, hk, rfl⟩
    have hcell : w.cell? ⟨P (sw H i j k), 3, none⟩ = some (.int .i64 l) := by rw [e]; exact r.ga l hl
    rw [cell_set (cell_set (cell_set (cell_set hcell)))]
    simp only [Addr.mk.injEq, pk.1.symm, false_and, if_false, and_true, Option.some.injEq]
    by_cases e2 : k = j
    · subst e2; rw [sw_j, if_pos rfl]
    · by_cases e1 : k = i
      · subst e1
        rw [sw_i]
        have hne : P (H k) ≠ P (H j) := fun h => e2 (r.hinj _ _ hk hj (r.inj _ _ (r.hlt _ hk) (r.hlt _ hj) h))
        rw [if_neg hne, if_pos rfl]
      · rw [sw_other H e1 e2] at e ⊢
        have hne1 : P (H i) ≠ P (H k) := fun h => e1 (r.hinj _ _ hk hi (r.inj _ _ (r.hlt _ hk) (r.hlt _ hi) h.symm))
        have hne2 : P (H j) ≠ P (H k) := fun h => e2 (r.hinj _ _ hk hj (r.inj _ _ (r.hlt _ hk) (r.hlt _ hj) h.symm))
        rw [if_neg hne1, if_neg hne2, r.hinj _ _ hk hl e]
  · simp [swapped, r.gf t ht]

end Go.Proofs.Qxb6614139a
