/-
  The walk of FnGroupHeapSwapUndoneBySwapBack: for every slice of numbers and every i, j it returns true.
-/
import Derived.Test.Qxb6614139aPtr
import Derived.Deep.DeepCutAuto
namespace Go.Proofs.Qxb6614139a
open Go.RowKit

theorem sw_back (H : Nat → Nat) (i j : Nat) : sw (sw H i j) j i = H := by
  funext k
  by_cases e1 : k = j
  · subst e1; rw [sw_i, sw_i]
  · by_cases e2 : k = i
    · subst e2; rw [sw_j, sw_j]
    · rw [sw_other _ e1 e2, sw_other _ e2 e1]

theorem below_make {w w1 : World} (hg : w.grownBy w1 none) : Below w.heap.size w w1 := (Below.refl _ _).grown hg (Nat.le_refl _) (fun j hj => by cases hj)

theorem bytes6_any (ao : Option Addr) (n c : Nat) (i j : Int) (w : World) (hn : n ≤ maxLen) :
    Calls Try.prog 17 #[.slice ao n c, .int .i64 i, .int .i64 j] w fun e w' => ∃ r : Bool, e = .returned (.bool r) ∧ w' = w := by
  unfold maxLen at hn
  by_cases h : 1048576 < n
  · go_enter Try.func17, Try.ntmps17
    go_wp2
    go_ret
    exact ⟨false, rfl, rfl⟩
  · go_enter Try.func17, Try.ntmps17
    go_wp2
    go_ret
    exact ⟨true, rfl, rfl⟩

set_option maxRecDepth 100000 in
set_option maxHeartbeats 1000000 in
theorem law6_any (ao : Option Addr) (n c : Nat) (nx : Nat → Int) (i j : Int) (w : World) (hN : Nums w.heap.size w ao n nx) (hn : n ≤ maxLen) :
    Calls Try.prog 6 #[.slice ao n c, .int .i64 i, .int .i64 j] w fun e w' => e = .returned (.bool true) ∧ Below w.heap.size w w' := by
  have hby := bytes6_any ao n c i j w hn
  unfold maxLen at hn
  go_enter Try.func6, Try.ntmps6
  go_wp2_with fail
  refine hby.mono ?_
  rintro e w' ⟨r, rfl, rfl⟩
  clear hby
  cases r
  · go_wp2
    go_ret
    exact ⟨rfl, Below.refl _ _⟩
  by_cases hn1 : 4096 < n
  · go_wp2
    go_ret
    exact ⟨rfl, Below.refl _ _⟩
  by_cases hin : 0 ≤ i ∧ i < n ∧ 0 ≤ j ∧ j < n
  case neg =>
    rcases (show i < 0 ∨ (0 ≤ i ∧ (n : Int) ≤ i) ∨ (0 ≤ i ∧ i < n ∧ j < 0) ∨ (0 ≤ i ∧ i < n ∧ 0 ≤ j ∧ (n : Int) ≤ j) from by omega) with h | ⟨h1, h2⟩ | ⟨h1, h2, h3⟩ | ⟨h1, h2, h3, h4⟩
    all_goals
      clear hin
      go_wp2
      go_ret
      exact ⟨rfl, Below.refl _ _⟩
  obtain ⟨h1, h2, h3, h4⟩ := hin
  obtain ⟨i, rfl⟩ := Int.eq_ofNat_of_zero_le h1
  obtain ⟨j, rfl⟩ := Int.eq_ofNat_of_zero_le h3
  have hi : i < n := by omega
  have hj : j < n := by omega
  have b0 : decide ((4096 : Int) < (n : Int)) = false := by simp; omega
  have b1 : decide ((i : Int) < 0) = false := by simp
  have b2 : decide ((n : Int) ≤ (i : Int)) = false := by simp; omega
  have b3 : decide ((j : Int) < 0) = false := by simp
  have b4 : decide ((n : Int) ≤ (j : Int)) = false := by simp; omega
  clear h1 h2 h3 h4
  go_wp2_with fail
  refine (new_any n w' (by omega)).mono ?_
  rintro e w1 ⟨rfl, hS1, hg1⟩
  have hs1 : w'.heap.size < w1.heap.size := (Array.getElem?_eq_some_iff.1 hS1).1
  go_wp2_with fail
  refine (new_any n w1 (by omega)).mono ?_
  rintro e w2 ⟨rfl, hO2, hg2⟩
  go_wp2
  have hb2 : Below w'.heap.size w' w2 := (below_make hg1).trans ((below_make hg2).mono (Nat.le_of_lt hs1))
  have hS2 : w2.heap[w'.heap.size]? = some (.cells (List.replicate n (Value.pointer none)).toArray 36 (0, 0)) := (hg2.block _ hs1 (by simp)).trans hS1
  clear hg1 hg2 hS1
  go_loopw [10] (fun a wr => ∃ (m : Nat) (P : Nat → Nat), m ≤ n ∧ a = .int .i64 m ∧ Build w'.heap.size w1.heap.size n m nx P wr ∧ Below w'.heap.size w' wr) (fun a _ => n - (intOf a).toNat)
  case atStart => exact ⟨0, fun _ => 0, by omega, rfl, Build.start hs1 hS2 hO2, hb2⟩
  case round =>
    clear hb2 hS2 hO2
    obtain ⟨m, P, hm, rfl, hB, hbel⟩ := hrel
    by_cases hlt : m < n
    · obtain ⟨g, off, rfl, hg, hcx⟩ := (hN.below hbel) m hlt
      have hset := set_any w'.heap.size n n m (nx m) m _ wr (Nat.lt_trans hB.so hB.sz) hlt (hB.hz m (Nat.le_refl _) hlt) (hB.hf m hlt)
      go_wp2_with fail
      refine hset.mono ?_
      rintro e wA ⟨rfl, cs, hwA, hc2, hc3⟩
      have hso := hB.so
      have hsz := hB.sz
      have cA : wA.cell? ⟨w'.heap.size, m, none⟩ = some (ptr wr.heap.size) := by
        rw [hwA]; exact cell_alloc (World.cell?_setCell_same _ _ _ (hB.hz m (Nat.le_refl _) hlt))
      have oA : wA.cell? ⟨w1.heap.size, m, none⟩ = some (.pointer none) := by
        rw [hwA]; exact cell_alloc (by rw [World.cell?_setCell_other _ _ _ _ (fun e => by injection e; omega)]; exact hB.oz m (Nat.le_refl _) hlt)
      have fA : wA.frozen? ⟨w1.heap.size, m, none⟩ = false := by
        rw [hwA, frozen_alloc_lt (by simp; omega), World.frozen?_setCell]; exact hB.fo m hlt
      have HW : Hid (wA = (wr.setCell ⟨w'.heap.size, m, none⟩ (ptr wr.heap.size)).alloc (.cells cs 54)) := hwA
      clear hwA hset
      go_wp2_with fail
      refine (groupOf_any w'.heap.size n n m wr.heap.size wA hlt cA).mono ?_
      rintro e wB ⟨rfl, rfl⟩
      go_wp2_with fail
      refine (put_any w1.heap.size n n m wr.heap.size _ wB hlt oA fA).mono ?_
      rintro e wC ⟨rfl, rfl⟩
      go_wp2
      go_roundw
      case rel =>
        refine ⟨m + 1, (fun t => if t = m then wr.heap.size else P t), by omega, by go_num, ?_, ?_⟩
        · rw [HW.out]; exact hB.step hlt hc2 hc3
        · rw [HW.out]; exact ((hbel.setCell (Nat.le_refl _) _).alloc (by simp; omega) _).setCell (Nat.le_of_lt hso) _
      case measure => simp [intOf]; omega
    · obtain rfl : m = n := by omega
      have hR := hB.run
      have hso := hB.so
      have hP : ∀ t, t < m → w'.heap.size ≤ P t := fun t ht => by have := hB.po t ht; omega
      clear hB
      go_wp2_with fail
      refine (swap_any w'.heap.size w'.heap.size w1.heap.size m nx P (fun k => k) i j w' wr hR hbel (Nat.le_refl _) hP hi hj).mono ?_
      rintro e wS ⟨rfl, hR1, hb1⟩
      have cj : wS.cell? ⟨w'.heap.size, j, none⟩ = some (ptr (P i)) := by have h := hR1.hc j hj; rw [sw_j] at h; exact h
      have ci : wS.cell? ⟨w'.heap.size, i, none⟩ = some (ptr (P j)) := by have h := hR1.hc i hi; rw [sw_i] at h; exact h
      have oi := hR1.oc i hi
      have oj := hR1.oc j hj
      have ai : wS.cell? ⟨P j, 3, none⟩ = some (.int .i64 i) := by have h := hR1.ga i hi; rw [sw_i] at h; exact h
      have aj : wS.cell? ⟨P i, 3, none⟩ = some (.int .i64 j) := by have h := hR1.ga j hj; rw [sw_j] at h; exact h
      clear hR hbel
      have heq := run_eql_ptr_same
      go_wp2_with fail
      refine (groupOf_any w'.heap.size m m j (P i) wS hj cj).mono ?_
      rintro e wT ⟨rfl, rfl⟩
      go_wp2_with fail
      refine (groupOf_any w1.heap.size m m i (P i) wT hi oi).mono ?_
      rintro e wS ⟨rfl, rfl⟩
      unfold ptr
      go_wp2_with fail
      refine (groupOf_any w'.heap.size m m i (P j) wS hi ci).mono ?_
      rintro e wT ⟨rfl, rfl⟩
      go_wp2_with fail
      refine (groupOf_any w1.heap.size m m j (P j) wT hj oj).mono ?_
      rintro e wS ⟨rfl, rfl⟩
      unfold ptr
      go_wp2_with fail
      refine (groupAt_any w'.heap.size m m i (P j) i wS hi ci ai).mono ?_
      rintro e wT ⟨rfl, rfl⟩
      go_wp2_with fail
      refine (groupAt_any w'.heap.size m m j (P i) j wT hj cj aj).mono ?_
      rintro e wS ⟨rfl, rfl⟩
      clear cj ci oi oj ai aj heq
      go_wp2_with fail
      refine (swap_any w'.heap.size w'.heap.size w1.heap.size m nx P _ j i w' wS hR1 hb1 (Nat.le_refl _) hP hj hi).mono ?_
      rintro e wU ⟨rfl, hR2, hb2⟩
      rw [sw_back] at hR2
      clear hR1 hb1
      go_wp2
      go_loopw [12] (fun a wr => ∃ k : Nat, k ≤ m ∧ a = .int .i64 k ∧ Run w'.heap.size w1.heap.size m nx P (fun k => k) wr ∧ Below w'.heap.size w' wr) (fun a _ => m - (intOf a).toNat)
      case atStart => exact ⟨0, by omega, rfl, hR2, hb2⟩
      case round =>
        clear hR2 hb2
        obtain ⟨k, hk, rfl, hR2, hb2⟩ := hrel
        by_cases hlt : k < m
        · have hck := hR2.hc k hlt
          have hok := hR2.oc k hlt
          have hak := hR2.ga k hlt
          have hnk := hR2.gn k hlt
          obtain ⟨g, off, rfl, hg, hcx⟩ := (hN.below hb2) k hlt
          have hneq := run_neq_ptr_same
          have c1 := groupOf_any w'.heap.size m m k (P k) wr hlt hck
          have c2 := groupOf_any w1.heap.size m m k (P k) wr hlt hok
          have c3 : ∀ q, Calls Try.prog 15 #[.slice (some ⟨w'.heap.size, 0, none⟩) m m, .int .i64 k] (wr.drewN q) fun e w' => e = .returned (.int .i64 k) ∧ w' = wr.drewN q := fun q => groupAt_any w'.heap.size m m k (P k) k (wr.drewN q) hlt hck hak
          have c4 : ∀ q, Calls Try.prog 16 #[.slice (some ⟨w'.heap.size, 0, none⟩) m m, .int .i64 k] (wr.drewN q) fun e w' => e = .returned (.int .i64 (nx k)) ∧ w' = wr.drewN q := fun q => groupNext_any w'.heap.size m m k (P k) (nx k) (wr.drewN q) hlt hck hnk
          go_wp2_with fail
          refine c1.mono ?_
          rintro e wV ⟨rfl, hV⟩
          subst hV
          go_wp2_with fail
          refine c2.mono ?_
          rintro e wV ⟨rfl, hV⟩
          subst hV
          unfold ptr
          clear c1 c2
          go_wp2_with fail
          go_quiet ((first | (go_at_call 15; exact Calls.quiet_of_same (c3 _)) | (go_at_call 16; exact Calls.quiet_of_same (c4 _))))
          go_wp2
          go_roundw
          case rel => exact ⟨k + 1, by omega, by go_num, hR2.drewN nq, below_drewN hb2 nq⟩
          case measure => simp [intOf]; omega
        · go_wp2
          go_ret
          exact ⟨rfl, hb2⟩
end Go.Proofs.Qxb6614139a
