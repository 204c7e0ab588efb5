import Derived.Test.Qxb6613705aReads
namespace Go.Proofs.Qxb6613705a
open Go.RowKit
theorem info9 : (Try.prog.info? 9).map (fun i => (i.zero, i.size, i.bytes)) = some (some (.string ⟨#[]⟩), 1, 16) := by kernel_rfl
theorem sl_snoc (ao : Option Addr) (z : List Txt) (x : Txt) (c : Nat) : Value.slice ao (z.length + 1) c = Value.slice ao (z ++ [x]).length c := by simp
theorem int_succ (i : Nat) : Value.int .i64 ((i : Int) + 1) = .int .i64 ((i + 1 : Nat) : Int) := by simp

/-- One append onto the row of the call's own: what was there before the call has not turned. -/
theorem below_step {B : Nat} {w0 w w2 : World} {o : Obj} (h : Below B w0 w) (hg : (w.alloc o).grownBy w2 (some B)) (hB : B ≤ w0.heap.size := by exact Nat.le_refl _) : Below B w0 w2 :=
  (h.alloc (Nat.le_trans hB h.size) o).grown hg (by have := h.size; simp; omega) (fun j hj => by cases hj; exact Nat.le_refl _)

set_option maxHeartbeats 1000000 in
theorem union_any (ao bo : Option Addr) (cap cap' : Nat) (xs ys : List Txt) (w : World) (hR : Rd w.heap.size w ao xs) (hS : Rd w.heap.size w bo ys) (hx : Asc xs) (hy : Asc ys) (hnx : xs.length ≤ 4194304) (hny : ys.length ≤ 4194304) :
    Calls Try.prog 8 #[.slice ao xs.length cap, .slice bo ys.length cap'] w fun e w' => ∃ (c : Nat) (z : List Txt), e = .returned (.slice (some ⟨w.heap.size, 0, none⟩) z.length c) ∧ Asc z ∧ (∀ v, v ∈ z ↔ v ∈ xs ∨ v ∈ ys) ∧
      w'.ownsRow w.heap.size 9 1 (.slice (some ⟨w.heap.size, 0, none⟩) z.length c) z.length (z.map encStr) ∧ Below w.heap.size w w' := by
  obtain ⟨i0, hi, hz0, hz1, hz2⟩ := info_parts info9
  go_enter Try.func8, Try.ntmps8
  go_wp2_with (first
    | (at_make; refine wpList_make_own _ rfl _ _ 22 rfl w.heap.size 9 i0 (.string ⟨#[]⟩) 1 Try.underlying22 hi hz0 hz1 _ _ _ (xs.length + ys.length) rfl rfl (by omega) (by rw [hz2]; omega) (by unfold maxLen; omega) (Nat.le_refl _) ?_; intro w1 hrow1 hg1))
  go_loopw [5, 6, 7] (fun v a b wr => ∃ (i j : Nat) (z : List Txt), i ≤ xs.length ∧ j ≤ ys.length ∧ v = .slice (some ⟨w.heap.size, 0, none⟩) z.length (xs.length + ys.length) ∧ a = .int .i64 i ∧ b = .int .i64 j ∧ Merged xs ys i j z ∧
      wr.ownsRow w.heap.size 9 1 (.slice (some ⟨w.heap.size, 0, none⟩) z.length (xs.length + ys.length)) z.length (z.map encStr) ∧ Below w.heap.size w wr)
    (fun _ a b _ => xs.length + ys.length - (intOf a).toNat - (intOf b).toNat)
  case atStart => exact ⟨0, 0, [], by omega, by omega, rfl, rfl, rfl, Merged.start _ _, hrow1, (Below.refl _ _).grown hg1 (Nat.le_refl _) (fun j hj => by cases hj)⟩
  case round =>
    obtain ⟨i, j, z, hil, hjl, rfl, rfl, rfl, hM, hown, hbel⟩ := hrel
    have hzl := hM.len
    by_cases hij : i < xs.length ∧ j < ys.length
    · obtain ⟨hi1, hj1⟩ := hij
      obtain ⟨x, hx0⟩ : ∃ x, xs[i]? = some x := ⟨_, List.getElem?_eq_getElem hi1⟩
      obtain ⟨y, hy0⟩ : ∃ y, ys[j]? = some y := ⟨_, List.getElem?_eq_getElem hj1⟩
      obtain ⟨g, off, rfl, hg, hcx⟩ := (hR.below hbel) i x hx0
      obtain ⟨g', off', rfl, hg', hcy⟩ := (hS.below hbel) j y hy0
      have HX : Hid (xs[i]? = some x) := hx0
      have HY : Hid (ys[j]? = some y) := hy0
      clear hx0 hy0
      by_cases hxy : x < y
      · have hless : Op.bytesLess x y = true := by rw [less_txt]; simpa using hxy
        go_wp2
        go_quiet (fail)
        go_wp2_with (first | (at_builtin; refine wpList_append_fits _ rfl (.tmp 33) (.tmp 38) 22 rfl w.heap.size 9 i0 1 Try.underlying22 hi hz1 w.heap.size z.length (xs.length + ys.length) (z.map encStr) rfl (by exact World.ownsRow.alloc (w := wr.drewN nq) hown _) ⟨wr.heap.size, 0, none⟩ 1 1 [encStr x] rfl rfl (by exact cell_one_new (wr.drewN nq) _ _) (by simp [Value.oneCell', encStr]) (by omega) ?_; intro w2 hown2 hg2))
        go_roundw
        case rel => exact ⟨i + 1, j, z ++ [x], by omega, by omega, by simp, by go_num, rfl, hM.left hx HX.out (hy.all_drop_lt HY.out hxy), by simpa using hown2, below_step (w := wr.drewN nq) (below_drewN hbel _) hg2⟩
        case measure => simp [intOf]; omega
      · have hless : Op.bytesLess x y = false := by rw [less_txt]; simpa using hxy
        by_cases hyx : y < x
        · have hless' : Op.bytesLess y x = true := by rw [less_txt]; simpa using hyx
          go_wp2
          go_quiet (fail)
          go_wp2
          revert nq
          intro m1
          go_quiet (fail)
          go_wp2_with (first | (at_builtin; refine wpList_append_fits _ rfl (.tmp 51) (.tmp 56) 22 rfl w.heap.size 9 i0 1 Try.underlying22 hi hz1 w.heap.size z.length (xs.length + ys.length) (z.map encStr) rfl (by exact World.ownsRow.alloc (w := wr.drewN (m1 + nq)) hown _) ⟨wr.heap.size, 0, none⟩ 1 1 [encStr y] rfl rfl (by exact cell_one_new (wr.drewN (m1 + nq)) _ _) (by simp [Value.oneCell', encStr]) (by omega) ?_; intro w2 hown2 hg2))
          go_roundw
          case rel => exact ⟨i, j + 1, z ++ [y], by omega, by omega, by simp, rfl, by go_num, hM.right hy HY.out (hx.all_drop_lt HX.out hyx), by simpa using hown2, below_step (w := wr.drewN (m1 + nq)) (below_drewN hbel _) hg2⟩
          case measure => simp [intOf]; omega
        · have hless' : Op.bytesLess y x = false := by rw [less_txt]; simpa using hyx
          have HE : Hid (x = y) := txt_eq hxy hyx
          go_wp2
          go_quiet (fail)
          go_wp2
          revert nq
          intro m1
          go_quiet (fail)
          go_wp2_with (first | (at_builtin; refine wpList_append_fits _ rfl (.tmp 60) (.tmp 65) 22 rfl w.heap.size 9 i0 1 Try.underlying22 hi hz1 w.heap.size z.length (xs.length + ys.length) (z.map encStr) rfl (by exact World.ownsRow.alloc (w := wr.drewN (m1 + nq)) hown _) ⟨wr.heap.size, 0, none⟩ 1 1 [encStr x] rfl rfl (by exact cell_one_new (wr.drewN (m1 + nq)) _ _) (by simp [Value.oneCell', encStr]) (by omega) ?_; intro w2 hown2 hg2))
          go_roundw
          case rel => exact ⟨i + 1, j + 1, z ++ [x], by omega, by omega, by simp, by go_num, by go_num, hM.both hx hy HX.out (HE.out ▸ HY.out), by simpa using hown2, below_step (w := wr.drewN (m1 + nq)) (below_drewN hbel _) hg2⟩
          case measure => simp [intOf]; omega
    · have hout : xs.length ≤ i ∨ (i < xs.length ∧ ys.length ≤ j) := by omega
      have hMj : i < xs.length → ys.length ≤ j := by omega
      clear hij
      have hout' : decide (i < xs.length) = false ∨ (decide (i < xs.length) = true ∧ decide (j < ys.length) = false) := by
        rcases hout with ho | ⟨ho1, ho2⟩
        · exact .inl (by simpa using ho)
        · exact .inr ⟨by simpa using ho1, by simpa using ho2⟩
      clear hout
      rcases hout' with hd1 | ⟨hd1, hd2⟩
      all_goals
        go_wp2
        go_loopw [5, 6] (fun v a wr => ∃ (i : Nat) (z : List Txt), i ≤ xs.length ∧ (i < xs.length → ys.length ≤ j) ∧ v = .slice (some ⟨w.heap.size, 0, none⟩) z.length (xs.length + ys.length) ∧ a = .int .i64 i ∧ Merged xs ys i j z ∧
            wr.ownsRow w.heap.size 9 1 (.slice (some ⟨w.heap.size, 0, none⟩) z.length (xs.length + ys.length)) z.length (z.map encStr) ∧ Below w.heap.size w wr)
          (fun _ a _ => xs.length - (intOf a).toNat)
        case atStart => exact ⟨i, z, hil, hMj, rfl, rfl, hM, hown, hbel⟩
        case round =>
          clear hMj hM hown hbel hzl hil
          obtain ⟨i, z, hil, hMj, rfl, rfl, hM, hown, hbel⟩ := hrel
          have hzl := hM.len
          by_cases hi1 : i < xs.length
          · obtain ⟨x, hx0⟩ : ∃ x, xs[i]? = some x := ⟨_, List.getElem?_eq_getElem hi1⟩
            obtain ⟨g, off, rfl, hg, hcx⟩ := (hR.below hbel) i x hx0
            have HX : Hid (xs[i]? = some x) := hx0
            clear hx0
            go_wp2_with (first | (at_builtin; refine wpList_append_fits _ rfl (.tmp 77) (.tmp 82) 22 rfl w.heap.size 9 i0 1 Try.underlying22 hi hz1 w.heap.size z.length (xs.length + ys.length) (z.map encStr) rfl (by exact World.ownsRow.alloc (w := wr) hown _) ⟨wr.heap.size, 0, none⟩ 1 1 [encStr x] rfl rfl (by exact cell_one_new (wr) _ _) (by simp [Value.oneCell', encStr]) (by omega) ?_; intro w2 hown2 hg2))
            go_roundw
            case rel =>
              have e1 : i + 1 ≤ xs.length := by omega
              have e2 : w2.ownsRow w.heap.size 9 1 (.slice (some ⟨w.heap.size, 0, none⟩) (z ++ [x]).length (xs.length + ys.length)) (z ++ [x]).length ((z ++ [x]).map encStr) := by simpa using hown2
              first | exact ⟨i + 1, z ++ [x], e1, fun _ => hMj hi1, sl_snoc _ z x _, int_succ i, hM.left hx HX.out (drop_nil_of (hMj hi1)), e2, below_step hbel hg2⟩ | ((repeat apply Exists.intro); exact ⟨⟨i + 1, z ++ [x], e1, fun _ => hMj hi1, sl_snoc _ z x _, int_succ i, hM.left hx HX.out (drop_nil_of (hMj hi1)), e2, below_step hbel hg2⟩, rfl⟩)
            case measure => simp [intOf]; omega
          · obtain rfl : i = xs.length := by omega
            clear hMj
            go_wp2
            go_loopw [5, 7] (fun v a wr => ∃ (j : Nat) (z : List Txt), j ≤ ys.length ∧ v = .slice (some ⟨w.heap.size, 0, none⟩) z.length (xs.length + ys.length) ∧ a = .int .i64 j ∧ Merged xs ys xs.length j z ∧
                wr.ownsRow w.heap.size 9 1 (.slice (some ⟨w.heap.size, 0, none⟩) z.length (xs.length + ys.length)) z.length (z.map encStr) ∧ Below w.heap.size w wr)
              (fun _ a _ => ys.length - (intOf a).toNat)
            case atStart => exact ⟨j, z, hjl, rfl, rfl, hM, hown, hbel⟩
            case round =>
              clear hM hown hbel hzl
              obtain ⟨j, z, hjl, rfl, rfl, hM, hown, hbel⟩ := hrel
              have hzl := hM.len
              by_cases hj1 : j < ys.length
              · obtain ⟨y, hy0⟩ : ∃ y, ys[j]? = some y := ⟨_, List.getElem?_eq_getElem hj1⟩
                obtain ⟨g, off, rfl, hg, hcy⟩ := (hS.below hbel) j y hy0
                have HY : Hid (ys[j]? = some y) := hy0
                clear hy0
                go_wp2_with (first | (at_builtin; refine wpList_append_fits _ rfl (.tmp 90) (.tmp 95) 22 rfl w.heap.size 9 i0 1 Try.underlying22 hi hz1 w.heap.size z.length (xs.length + ys.length) (z.map encStr) rfl (by exact World.ownsRow.alloc (w := wr) hown _) ⟨wr.heap.size, 0, none⟩ 1 1 [encStr y] rfl rfl (by exact cell_one_new (wr) _ _) (by simp [Value.oneCell', encStr]) (by omega) ?_; intro w2 hown2 hg2))
                go_roundw
                case rel =>
                  have e1 : j + 1 ≤ ys.length := by omega
                  have e2 : w2.ownsRow w.heap.size 9 1 (.slice (some ⟨w.heap.size, 0, none⟩) (z ++ [y]).length (xs.length + ys.length)) (z ++ [y]).length ((z ++ [y]).map encStr) := by simpa using hown2
                  first | exact ⟨j + 1, z ++ [y], e1, sl_snoc _ z y _, int_succ j, hM.right hy HY.out (drop_nil_of (Nat.le_refl _)), e2, below_step hbel hg2⟩ | ((repeat apply Exists.intro); exact ⟨⟨j + 1, z ++ [y], e1, sl_snoc _ z y _, int_succ j, hM.right hy HY.out (drop_nil_of (Nat.le_refl _)), e2, below_step hbel hg2⟩, rfl⟩)
                case measure => simp [intOf]; omega
              · have hd := hM.done (Nat.le_refl _) (by omega)
                go_wp2
                go_ret
                exact ⟨xs.length + ys.length, z, rfl, hd.1, hd.2, hown, hbel⟩
end Go.Proofs.Qxb6613705a
