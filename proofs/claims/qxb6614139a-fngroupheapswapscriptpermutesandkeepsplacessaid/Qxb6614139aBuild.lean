/-
  The making of the heap: ZZnewGroupHeap, ZZsetGroup; the state while it is built ('Build'), group by group; the numbers of a slice that came in ('Nums').
-/
import Derived.Test.Qxb6614139aSwap
namespace Go.Proofs.Qxb6614139a
open Go.RowKit
set_option linter.unusedSimpArgs false
theorem info36 : (Try.prog.info? 36).map (fun i => (i.zero, i.size, i.bytes)) = some (some (.pointer none), 1, 8) := by kernel_rfl

theorem made_one (z : Value) (n : Nat) (hz : z.cells = #[z]) : (madeCells z.cells (n * 1)).toList = List.replicate n z := by
  apply List.ext_getElem (by simp [madeCells])
  intro i h1 h2
  have e : i % 1 = 0 := Nat.mod_one i
  simp [madeCells, hz, e]

theorem block_of_full {w : World} {base g n : Nat} {e : TypeId} {xs : List Value} (h : w.ownsRow base e 1 (.slice (some ⟨g, 0, none⟩) n n) n xs) : w.heap[g]? = some (.cells xs.toArray e (0, 0)) := by
  rcases h.2 with ⟨h', _⟩ | ⟨g', cap', cur, h', _, hg, _, _, hcs, ht⟩
  · cases h'
  · simp only [Value.slice.injEq, Option.some.injEq, Addr.mk.injEq, and_true, true_and] at h'
    obtain ⟨rfl, rfl⟩ := h'
    rw [hg, ← ht, List.take_of_length_le (by simpa using Nat.le_of_eq hcs)]

theorem new_any (n : Nat) (w : World) (hn : n ≤ 4194304) :
    Calls Try.prog 10 #[.int .i64 n] w fun e w' => e = .returned (.slice (some ⟨w.heap.size, 0, none⟩) n n) ∧ w'.heap[w.heap.size]? = some (.cells (List.replicate n (Value.pointer none)).toArray 36 (0, 0)) ∧ w.grownBy w' none := by
  obtain ⟨i0, hi, hz0, hz1, hz2⟩ := info_parts info36
  go_enter Try.func10, Try.ntmps10
  go_wp2_with (first
    | (at_make; refine wpList_make_full _ rfl _ _ 32 rfl w.heap.size 36 i0 (.pointer none) 1 Try.underlying32 hi hz0 hz1 _ _ _ _ n rfl rfl rfl rfl (by rw [hz2]; omega) (by unfold maxLen; omega) (by exact Nat.le_refl _) ?_; intro w1 hrow1 hg1))
  go_ret
  have hb := block_of_full hrow1
  rw [made_one _ _ rfl] at hb
  exact ⟨rfl, hb, hg1⟩

theorem set_any (S n c k : Nat) (a b : Int) (v : Value) (w : World) (hS : S < w.heap.size) (hk : k < n) (hc : w.cell? ⟨S, k, none⟩ = some v) (hf : w.frozen? ⟨S, k, none⟩ = false) :
    Calls Try.prog 11 #[.slice (some ⟨S, 0, none⟩) n c, .int .i64 k, .int .i64 a, .int .i64 b] w fun e w' => e = .returned (.tuple #[]) ∧ ∃ cs : Array Value, w' = (w.setCell ⟨S, k, none⟩ (ptr w.heap.size)).alloc (.cells cs 54) ∧ cs[2]? = some (.int .i64 a) ∧ cs[3]? = some (.int .i64 b) := by
  unfold ptr
  go_enter Try.func11, Try.ntmps11
  go_wp2
  go_end0
  exact ⟨rfl, _, rfl, rfl, rfl⟩

/-- m groups have been made and laid into both arrays. -/
structure Build (S O n m : Nat) (nx : Nat → Int) (P : Nat → Nat) (w : World) : Prop where
  so : S < O
  sz : O < w.heap.size
  po : ∀ t, t < m → O < P t ∧ P t < w.heap.size
  inj : ∀ s t, s < m → t < m → P s = P t → s = t
  hc : ∀ k, k < m → w.cell? ⟨S, k, none⟩ = some (ptr (P k))
  hz : ∀ k, m ≤ k → k < n → w.cell? ⟨S, k, none⟩ = some (.pointer none)
  hf : ∀ k, k < n → w.frozen? ⟨S, k, none⟩ = false
  oc : ∀ k, k < m → w.cell? ⟨O, k, none⟩ = some (ptr (P k))
  oz : ∀ k, m ≤ k → k < n → w.cell? ⟨O, k, none⟩ = some (.pointer none)
  fo : ∀ k, k < n → w.frozen? ⟨O, k, none⟩ = false
  gn : ∀ t, t < m → w.cell? ⟨P t, 2, none⟩ = some (.int .i64 (nx t))
  ga : ∀ t, t < m → w.cell? ⟨P t, 3, none⟩ = some (.int .i64 t)
  gf : ∀ t, t < m → w.frozen? ⟨P t, 3, none⟩ = false

theorem row_nil {w : World} {g n : Nat} (h : w.heap[g]? = some (.cells (List.replicate n (Value.pointer none)).toArray 36 (0, 0))) :
    (∀ k, k < n → w.cell? ⟨g, k, none⟩ = some (.pointer none)) ∧ ∀ k, k < n → w.frozen? ⟨g, k, none⟩ = false := by
  refine ⟨fun k hk => ?_, fun k hk => frozen_of_row w g k _ 36 h⟩
  rw [cell_of_row w g k _ 36 (0, 0) h]
  simp [hk]

theorem Build.start {S O n : Nat} {nx : Nat → Int} {P : Nat → Nat} {w : World} (so : S < O) (h1 : w.heap[S]? = some (.cells (List.replicate n (Value.pointer none)).toArray 36 (0, 0))) (h2 : w.heap[O]? = some (.cells (List.replicate n (Value.pointer none)).toArray 36 (0, 0))) : Build S O n 0 nx P w :=
  ⟨so, (Array.getElem?_eq_some_iff.1 h2).1, fun t ht => by omega, fun s t hs _ _ => by omega, fun k hk => by omega, fun k _ hk => (row_nil h1).1 k hk, (row_nil h1).2,
    fun k hk => by omega, fun k _ hk => (row_nil h2).1 k hk, (row_nil h2).2, fun t ht => by omega, fun t ht => by omega, fun t ht => by omega⟩

theorem cell_alloc {w : World} {o : Obj} {a : Addr} {u : Value} (h : w.cell? a = some u) : (w.alloc o).cell? a = some u := by
  rw [World.cell?_alloc_lt]
  · exact h
  · rcases Nat.lt_or_ge a.block w.heap.size with h1 | h1
    · exact h1
    · rw [World.cell?] at h
      simp only [Array.getElem?_eq_none h1] at h
      cases h

theorem cell_new {w : World} {cs : Array Value} {t k : Nat} {u : Value} (h : cs[k]? = some u) : (w.alloc (.cells cs t)).cell? ⟨w.heap.size, k, none⟩ = some u := by
  rw [cell_of_row _ _ k cs t (0, 0) (heap_alloc_new w _)]
  exact h

theorem frozen_alloc_lt {w : World} {o : Obj} {a : Addr} (h : a.block < w.heap.size) : (w.alloc o).frozen? a = w.frozen? a :=
  World.frozen?_of_block (w := w) (Below.heap_alloc w o a.block h)

/-- One group more. -/
theorem Build.step {S O n m : Nat} {nx : Nat → Int} {P : Nat → Nat} {w : World} (b : Build S O n m nx P w) (hm : m < n) {cs : Array Value} (h2 : cs[2]? = some (.int .i64 (nx m))) (h3 : cs[3]? = some (.int .i64 m)) :
    Build S O n (m + 1) nx (fun t => if t = m then w.heap.size else P t) (((w.setCell ⟨S, m, none⟩ (ptr w.heap.size)).alloc (.cells cs 54)).setCell ⟨O, m, none⟩ (ptr w.heap.size)) := by
  have hso := b.so
  have hsz := b.sz
  have hs' : (w.setCell ⟨S, m, none⟩ (ptr w.heap.size)).heap.size = w.heap.size := by simp
  refine ⟨b.so, by simp; omega, fun t ht => ?_, fun s t hs ht e => ?_, fun k hk => ?_, fun k hk1 hk2 => ?_, fun k hk => ?_, fun k hk => ?_, fun k hk1 hk2 => ?_, fun k hk => ?_, fun t ht => ?_, fun t ht => ?_, fun t ht => ?_⟩
  · by_cases e : t = m
    · subst e; simp; omega
    · have := b.po t (by omega)
      simp [e]; omega
  · by_cases e1 : s = m
    · by_cases e2 : t = m
      · omega
      · have := b.po t (by omega)
        simp [e1, e2] at e; omega
    · by_cases e2 : t = m
      · have := b.po s (by omega)
        simp [e1, e2] at e; omega
      · simp [e1, e2] at e
        exact b.inj s t (by omega) (by omega) e
  · by_cases e : k = m
    · subst e
      rw [cell_set (cell_alloc (cell_set (b.hz k (Nat.le_refl _) hm)))]
      have : O ≠ S := by omega
      simp [this]
    · rw [cell_set (cell_alloc (cell_set (b.hc k (by omega))))]
      have h1 : O ≠ S := by omega
      have h2 : m ≠ k := fun h => e h.symm
      simp [h1, h2, e]
  · rw [cell_set (cell_alloc (cell_set (b.hz k (by omega) hk2)))]
    have h1 : O ≠ S := by omega
    have h2 : m ≠ k := by omega
    simp [h1, h2]
  · rw [World.frozen?_setCell, frozen_alloc_lt (by simp; omega), World.frozen?_setCell]
    exact b.hf k hk
  · by_cases e : k = m
    · subst e
      rw [cell_set (cell_alloc (cell_set (b.oz k (Nat.le_refl _) hm)))]
      simp
    · rw [cell_set (cell_alloc (cell_set (b.oc k (by omega))))]
      have h1 : S ≠ O := by omega
      have h2 : m ≠ k := fun h => e h.symm
      simp [h1, h2, e]
  · rw [cell_set (cell_alloc (cell_set (b.oz k (by omega) hk2)))]
    have h1 : S ≠ O := by omega
    have h2 : m ≠ k := by omega
    simp [h1, h2]
  · rw [World.frozen?_setCell, frozen_alloc_lt (by simp; omega), World.frozen?_setCell]
    exact b.fo k hk
  · by_cases e : t = m
    · subst e
      have hn := cell_new (w := w.setCell ⟨S, t, none⟩ (ptr w.heap.size)) (t := 54) h2
      rw [hs'] at hn
      simp only [if_true]
      rw [cell_set hn]
      have : O ≠ w.heap.size := by omega
      simp [this]
    · have hp := b.po t (by omega)
      simp only [e, if_false]
      rw [cell_set (cell_alloc (cell_set (b.gn t (by omega))))]
      have h1 : O ≠ P t := by omega
      have h2 : S ≠ P t := by omega
      simp [h1, h2]
  · by_cases e : t = m
    · subst e
      have hn := cell_new (w := w.setCell ⟨S, t, none⟩ (ptr w.heap.size)) (t := 54) h3
      rw [hs'] at hn
      simp only [if_true]
      rw [cell_set hn]
      have : O ≠ w.heap.size := by omega
      simp [this]
    · have hp := b.po t (by omega)
      simp only [e, if_false]
      rw [cell_set (cell_alloc (cell_set (b.ga t (by omega))))]
      have h1 : O ≠ P t := by omega
      have h2 : S ≠ P t := by omega
      simp [h1, h2]
  · by_cases e : t = m
    · subst e
      simp only [if_true]
      rw [World.frozen?_setCell]
      have hn := heap_alloc_new (w.setCell ⟨S, t, none⟩ (ptr w.heap.size)) (.cells cs 54)
      rw [hs'] at hn
      exact frozen_of_row _ _ 3 cs 54 hn
    · have hp := b.po t (by omega)
      simp only [e, if_false]
      rw [World.frozen?_setCell, frozen_alloc_lt (by simp; omega), World.frozen?_setCell]
      exact b.gf t (by omega)

/-- All groups are made: the heap stands as it was built. -/
theorem Build.run {S O n : Nat} {nx : Nat → Int} {P : Nat → Nat} {w : World} (b : Build S O n n nx P w) : Run S O n nx P (fun k => k) w :=
  ⟨Nat.ne_of_lt b.so, fun t ht => by have := b.po t ht; have := b.so; omega, b.inj, fun k hk => hk, fun k l _ _ e => e, b.hc, b.hf, b.oc, b.gn, b.ga, b.gf⟩

/-- The first n numbers of a slice that came in. -/
def Nums (B : Nat) (w : World) (ao : Option Addr) (n : Nat) (f : Nat → Int) : Prop :=
  ∀ k, k < n → ∃ g off, ao = some ⟨g, off, none⟩ ∧ g < B ∧ w.cell? ⟨g, off + k, none⟩ = some (.int .i64 (f k))

theorem Nums.below {B : Nat} {w w' : World} {ao : Option Addr} {n : Nat} {f : Nat → Int} (h : Nums B w ao n f) (hb : Below B w w') : Nums B w' ao n f := by
  intro k hk
  obtain ⟨g, off, h1, h2, h3⟩ := h k hk
  exact ⟨g, off, h1, h2, by rw [hb.cell (p := ⟨g, off + k, none⟩) h2]; exact h3⟩
end Go.Proofs.Qxb6614139a
