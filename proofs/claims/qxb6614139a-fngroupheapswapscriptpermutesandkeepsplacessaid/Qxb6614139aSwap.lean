import Derived.Test.Qxb6614139aBase
namespace Go.Proofs.Qxb6614139a
open Go.RowKit

theorem groupOf_any (S n c k b : Nat) (w : World) (hk : k < n) (hc : w.cell? ⟨S, k, none⟩ = some (ptr b)) :
    Calls Try.prog 13 #[.slice (some ⟨S, 0, none⟩) n c, .int .i64 k] w fun e w' => e = .returned (ptr b) ∧ w' = w := by
  go_enter Try.func13, Try.ntmps13
  go_wp2
  go_ret
  exact ⟨rfl, rfl⟩

theorem groupAt_any (S n c k b : Nat) (a : Int) (w : World) (hk : k < n) (hc : w.cell? ⟨S, k, none⟩ = some (ptr b)) (ha : w.cell? ⟨b, 3, none⟩ = some (.int .i64 a)) :
    Calls Try.prog 15 #[.slice (some ⟨S, 0, none⟩) n c, .int .i64 k] w fun e w' => e = .returned (.int .i64 a) ∧ w' = w := by
  unfold ptr at hc
  go_enter Try.func15, Try.ntmps15
  go_wp2
  go_ret
  exact ⟨rfl, rfl⟩

theorem groupNext_any (S n c k b : Nat) (a : Int) (w : World) (hk : k < n) (hc : w.cell? ⟨S, k, none⟩ = some (ptr b)) (ha : w.cell? ⟨b, 2, none⟩ = some (.int .i64 a)) :
    Calls Try.prog 16 #[.slice (some ⟨S, 0, none⟩) n c, .int .i64 k] w fun e w' => e = .returned (.int .i64 a) ∧ w' = w := by
  unfold ptr at hc
  go_enter Try.func16, Try.ntmps16
  go_wp2
  go_ret
  exact ⟨rfl, rfl⟩

theorem put_any (S n c k b : Nat) (v : Value) (w : World) (hk : k < n) (hc : w.cell? ⟨S, k, none⟩ = some v) (hf : w.frozen? ⟨S, k, none⟩ = false) :
    Calls Try.prog 12 #[.slice (some ⟨S, 0, none⟩) n c, .int .i64 k, ptr b] w fun e w' => e = .returned (.tuple #[]) ∧ w' = w.setCell ⟨S, k, none⟩ (ptr b) := by
  unfold ptr
  go_enter Try.func12, Try.ntmps12
  go_wp2
  go_end0
  exact ⟨rfl, rfl⟩

set_option maxHeartbeats 400000 in
theorem swap19_any (S O n : Nat) (nx : Nat → Int) (P H : Nat → Nat) (i j : Nat) (w : World) (r : Run S O n nx P H w) (hi : i < n) (hj : j < n) :
    Calls Try.prog 19 #[.slice (some ⟨S, 0, none⟩) n n, .int .i64 i, .int .i64 j] w fun e w' => e = .returned (.tuple #[]) ∧ ∃ q, w' = (swapped S P H i j w).drewN q := by
  have ci := r.hc i hi
  have cj := r.hc j hj
  have fi := r.hf i hi
  have fj := r.hf j hj
  have pi := r.ps _ (r.hlt i hi)
  have pj := r.ps _ (r.hlt j hj)
  have ai := r.ga i hi
  have aj := r.ga j hj
  have gi := r.gf _ (r.hlt i hi)
  have gj := r.gf _ (r.hlt j hj)
  obtain ⟨W2, hW2⟩ : ∃ W2, W2 = (w.setCell ⟨S, i, none⟩ (ptr (P (H j)))).setCell ⟨S, j, none⟩ (ptr (P (H i))) := ⟨_, rfl⟩
  have di : W2.cell? ⟨S, i, none⟩ = some (ptr (P (H j))) := by
    rw [hW2, cell_set (cell_set ci)]
    by_cases e : j = i
    · subst e; simp
    · simp
  have dj : W2.cell? ⟨S, j, none⟩ = some (ptr (P (H i))) := by
    rw [hW2, cell_set (cell_set cj)]
    simp
  have dai : W2.cell? ⟨P (H i), 3, none⟩ = some (.int .i64 i) := by
    rw [hW2, cell_set (cell_set ai)]
    simp
  have daj : W2.cell? ⟨P (H j), 3, none⟩ = some (.int .i64 j) := by
    rw [hW2, cell_set (cell_set aj)]
    simp
  have dgi : W2.frozen? ⟨P (H i), 3, none⟩ = false := by rw [hW2]; simpa using gi
  have dgj : W2.frozen? ⟨P (H j), 3, none⟩ = false := by rw [hW2]; simpa using gj
  rw [hW2] at di dj dai daj dgi dgj
  obtain ⟨v1, e1⟩ := cell?_setCell_some (w := w) (p := ⟨S, i, none⟩) (x := ptr (P (H j))) (q := ⟨S, j, none⟩) cj
  obtain ⟨v2, e2⟩ := cell?_setCell_some (w := (w.setCell ⟨S, i, none⟩ (ptr (P (H j)))).setCell ⟨S, j, none⟩ (ptr (P (H i)))) (p := ⟨P (H j), 3, none⟩) (x := .int .i64 i) (q := ⟨P (H i), 3, none⟩) dai
  clear hW2 W2
  unfold ptr at ci cj di dj dai daj dgi dgj e1 e2
  clear r ai aj gi gj
  go_enter Try.func19, Try.ntmps19
  go_wp2
  go_region
  go_wp2
  go_region
  all_goals (go_wp2)
  go_end0
  exact ⟨rfl, 2, rfl⟩

theorem Run.drewN {S O n : Nat} {nx : Nat → Int} {P H : Nat → Nat} {w : World} (r : Run S O n nx P H w) (q : Nat) : Run S O n nx P H (w.drewN q) := ⟨r.so, r.ps, r.inj, r.hlt, r.hinj, r.hc, r.hf, r.oc, r.gn, r.ga, r.gf⟩

theorem swapped_below {B S n : Nat} {P H : Nat → Nat} {i j : Nat} {w0 w : World} (h : Below B w0 w) (hS : B ≤ S) (hP : ∀ t, t < n → B ≤ P t) (hi : H i < n) (hj : H j < n) : Below B w0 (swapped S P H i j w) :=
  (((h.setCell hS _).setCell hS _).setCell (hP _ hj) _).setCell (hP _ hi) _

/-- ZZswap. -/
theorem swap_any (B S O n : Nat) (nx : Nat → Int) (P H : Nat → Nat) (i j : Nat) (w0 w : World) (r : Run S O n nx P H w) (hb : Below B w0 w) (hS : B ≤ S) (hP : ∀ t, t < n → B ≤ P t) (hi : i < n) (hj : j < n) :
    Calls Try.prog 14 #[.slice (some ⟨S, 0, none⟩) n n, .int .i64 i, .int .i64 j] w fun e w' => e = .returned (.tuple #[]) ∧ Run S O n nx P (sw H i j) w' ∧ Below B w0 w' := by
  go_enter Try.func14, Try.ntmps14
  go_wp2_with (first | (go_at_call 19; refine (swap19_any S O n nx P H i j w r hi hj).mono ?_; rintro e w' ⟨rfl, q, rfl⟩))
  go_end0
  exact ⟨rfl, (r.swap hi hj).drewN q, below_drewN (swapped_below hb hS hP (r.hlt i hi) (r.hlt j hj)) q⟩
end Go.Proofs.Qxb6614139a
