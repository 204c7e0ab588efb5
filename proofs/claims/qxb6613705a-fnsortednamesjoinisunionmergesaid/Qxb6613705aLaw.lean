import Derived.Test.Qxb6613705aCopy
namespace Go.Proofs.Qxb6613705a
open Go.RowKit

theorem below_make {w w1 : World} (hg : w.grownBy w1 none) : Below w.heap.size w w1 := (Below.refl _ _).grown hg (Nat.le_refl _) (fun j hj => by cases hj)
theorem encStr_one (xs : List Txt) : ∀ v ∈ xs.map encStr, v.oneCell' = true := by
  intro v hv
  obtain ⟨x, _, rfl⟩ := List.mem_map.1 hv
  simp [Value.oneCell']
theorem made_len (z : Value) (n : Nat) : (madeCells z.cells (n * 1)).toList.length = n := by simp [madeCells]

set_option maxHeartbeats 1000000 in
set_option maxRecDepth 100000 in
theorem law_any (ao bo : Option Addr) (ca cb : Nat) (xs ys : List Txt) (w : World) (hR : Rd w.heap.size w ao xs) (hS : Rd w.heap.size w bo ys) (hx : xs.length ≤ maxLen) (hy : ys.length ≤ maxLen)
    (hxs : ∀ x ∈ xs, x.length ≤ maxLen) (hys : ∀ y ∈ ys, y.length ≤ maxLen) :
    Calls Try.prog 3 #[.slice ao xs.length ca, .slice bo ys.length cb] w fun e w' => e = .returned (.bool true) ∧ Below w.heap.size w w' := by
  obtain ⟨i0, hi, hz0, hz1, hz2⟩ := info_parts info9
  have hne := fun (w : World) (a : Option Addr) (n c : Nat) => run_neq_slice_nil_any (P := Try.prog) w 22 9 a n c 0 0 Try.underlying22
  have hbytes := bytes_any w.heap.size ao bo ca cb xs ys w hR hS hx hy hxs hys
  go_enter Try.func3, Try.ntmps3
  go_wp2_with fail
  refine hbytes.mono ?_
  rintro e w' ⟨r, rfl, hsm, rfl⟩
  cases r
  · go_wp2
    go_ret
    exact ⟨rfl, Below.refl _ _⟩
  obtain ⟨hx1, hy1, hx2, hy2⟩ := hsm rfl
  clear hbytes hsm hx hy
  go_upto_if 21 with (fail)
  go_cut [0] (fun s0 wc => ∃ (a' : Option Addr) (c' : Nat), s0 = .slice a' xs.length c' ∧ Rd wc.heap.size wc a' xs ∧ Below w'.heap.size w' wc)
  case first =>
    cases ao with
    | none =>
      go_wp2
      go_meet
      case rel => exact ⟨none, ca, rfl, hR, Below.refl _ _⟩
    | some ad =>
      go_wp2_with (first
        | (at_make; refine wpList_make_full _ rfl _ _ 22 rfl w'.heap.size 9 i0 (.string ⟨#[]⟩) 1 Try.underlying22 hi hz0 hz1 _ _ _ _ xs.length rfl rfl rfl rfl (by rw [hz2]; omega) (by unfold maxLen; omega) (by exact Nat.le_refl _) ?_; intro w1 hrow1 hg1)
        | (refine wpList_copy_splice rfl _ _ 22 22 rfl 9 Try.underlying22 size9 _ _ _ _ _ _ rfl rfl w'.heap.size 0 _ 9 (block_of_full hrow1) (xs.map encStr) (by simp) (fun h => ⟨rfl, src_of_rd (hR.below (below_make hg1)) h⟩) (by rw [made_len]; simp) (encStr_one xs) w'.heap.size w' (below_make hg1) (Nat.le_refl _) ?_; intro w2 hblk hb2))
      go_meet
      case rel =>
        have hblk' := hblk.out
        rw [splice_all _ _ (by rw [made_len]; simp)] at hblk'
        exact ⟨_, _, rfl, rd_of_block hblk', hb2⟩
  case rest =>
    obtain ⟨a', c', rfl, hRa, hba⟩ := hcut
    obtain ⟨w0, hw0⟩ : ∃ w0, w0 = wc := ⟨_, rfl⟩
    subst hw0
    have hS' : Rd w0.heap.size w0 bo ys := (hS.below hba).mono hba.size
    clear hR
    go_upto_if 30 with (fail)
    go_cut [1] (fun s1 wd => ∃ (b' : Option Addr) (d' : Nat), s1 = .slice b' ys.length d' ∧ Rd wd.heap.size wd b' ys ∧ Below w0.heap.size w0 wd)
    case first =>
      cases bo with
      | none =>
        go_wp2
        go_meet
        case rel => exact ⟨none, cb, rfl, hS', Below.refl _ _⟩
      | some ad =>
        go_wp2_with (first
          | (at_make; refine wpList_make_full _ rfl _ _ 22 rfl w0.heap.size 9 i0 (.string ⟨#[]⟩) 1 Try.underlying22 hi hz0 hz1 _ _ _ _ ys.length rfl rfl rfl rfl (by rw [hz2]; omega) (by unfold maxLen; omega) (by exact Nat.le_refl _) ?_; intro w1 hrow1 hg1)
          | (refine wpList_copy_splice rfl _ _ 22 22 rfl 9 Try.underlying22 size9 _ _ _ _ _ _ rfl rfl w0.heap.size 0 _ 9 (block_of_full hrow1) (ys.map encStr) (by simp) (fun h => ⟨rfl, src_of_rd (hS'.below (below_make hg1)) h⟩) (by rw [made_len]; simp) (encStr_one ys) w0.heap.size w0 (below_make hg1) (Nat.le_refl _) ?_; intro w2 hblk hb2))
        go_meet
        case rel =>
          have hblk' := hblk.out
          rw [splice_all _ _ (by rw [made_len]; simp)] at hblk'
          exact ⟨_, _, rfl, rd_of_block hblk', hb2⟩
    case rest =>
      obtain ⟨b', d', rfl, hSb, hbb⟩ := hcut
      obtain ⟨w1, hw1⟩ : ∃ w1, w1 = wc := ⟨_, rfl⟩
      subst hw1
      have hbel : Below w'.heap.size w' w1 := hba.trans (hbb.mono hba.size)
      have hRa' : Rd w1.heap.size w1 a' xs := (hRa.below hbb).mono hbb.size
      clear hS' hS hRa hba hbb
      go_wp2
      go_loop [7, 8] (fun t i => ∃ k n : Nat, k ≤ xs.length ∧ n ≤ 1048576 ∧ t = .int .i64 n ∧ i = .int .i64 k) (fun _ i => xs.length - (intOf i).toNat)
      case atStart => exact ⟨0, 0, by omega, by omega, rfl, rfl⟩
      case round =>
        obtain ⟨k, n, hk, hn, rfl, rfl⟩ := hrel
        by_cases hlt : k < xs.length
        · obtain ⟨x, hkx⟩ : ∃ x, xs[k]? = some x := ⟨_, List.getElem?_eq_getElem hlt⟩
          have hxl : x.length ≤ 1048576 := hx2 x (List.mem_of_getElem? hkx)
          obtain ⟨g, off, rfl, hg, hcx⟩ := hRa' k x hkx
          clear hkx hxs hys
          go_wp2
          · go_ret
            exact ⟨rfl, hbel⟩
          · go_round
            case rel => exact ⟨k + 1, n + (16 + x.length), by omega, by omega, by go_num, by go_num⟩
            case measure => simp [intOf]; omega
        · go_wp2
          go_loop [7, 9] (fun t i => ∃ k n : Nat, k ≤ ys.length ∧ n ≤ 1048576 ∧ t = .int .i64 n ∧ i = .int .i64 k) (fun _ i => ys.length - (intOf i).toNat)
          case atStart => exact ⟨0, n, by omega, by omega, rfl, rfl⟩
          case round =>
            clear hk hn
            obtain ⟨k, n, hk, hn, rfl, rfl⟩ := hrel
            by_cases hlt : k < ys.length
            · obtain ⟨x, hkx⟩ : ∃ x, ys[k]? = some x := ⟨_, List.getElem?_eq_getElem hlt⟩
              have hxl : x.length ≤ 1048576 := hy2 x (List.mem_of_getElem? hkx)
              obtain ⟨g, off, rfl, hg, hcx⟩ := hSb k x hkx
              clear hkx hxs hys
              go_wp2
              · go_ret
                exact ⟨rfl, hbel⟩
              · go_round
                case rel => exact ⟨k + 1, n + (16 + x.length), by omega, by omega, by go_num, by go_num⟩
                case measure => simp [intOf]; omega
            · go_wp2_with (first
                | (at_make; refine wpList_make_own _ rfl _ _ 22 rfl w1.heap.size 9 i0 (.string ⟨#[]⟩) 1 Try.underlying22 hi hz0 hz1 _ _ _ (xs.length + ys.length) rfl rfl (by omega) (by rw [hz2]; omega) (by unfold maxLen; omega) (Nat.le_refl _) ?_; intro w2 hrow2 hg2))
              clear hk hn
              go_loopw [10, 11] (fun v i wr => ∃ (k : Nat) (z : List Txt), k ≤ xs.length ∧ z.length ≤ k ∧ (∀ u : Txt, u ∈ z ↔ u ∈ xs.take k) ∧ v = .slice (some ⟨w1.heap.size, 0, none⟩) z.length (xs.length + ys.length) ∧ i = .int .i64 k ∧
                  wr.ownsRow w1.heap.size 9 1 (.slice (some ⟨w1.heap.size, 0, none⟩) z.length (xs.length + ys.length)) z.length (z.map encStr) ∧ Below w1.heap.size w1 wr)
                (fun _ i _ => xs.length - (intOf i).toNat)
              case atStart => exact ⟨0, [], by omega, by simp, by simp, rfl, rfl, hrow2, below_make hg2⟩
              case round =>
                obtain ⟨k2, z, hk2, hzl, hz, rfl, rfl, hown, hb2⟩ := hrel
                by_cases hlt2 : k2 < xs.length
                · obtain ⟨x, hkx⟩ : ∃ x, xs[k2]? = some x := ⟨_, List.getElem?_eq_getElem hlt2⟩
                  obtain ⟨g, off, rfl, hg, hcx⟩ := (hRa'.below hb2) k2 x hkx
                  have HX : Hid (xs[k2]? = some x) := hkx
                  have HZ : Hid (∀ u : Txt, u ∈ z ↔ u ∈ xs.take k2) := hz
                  clear hkx hxs hys hz
                  go_wp2_with (first | (at_builtin; refine wpList_append_fits _ rfl (.tmp 82) (.tmp 87) 22 rfl w1.heap.size 9 i0 1 Try.underlying22 hi hz1 w1.heap.size z.length (xs.length + ys.length) (z.map encStr) rfl (by exact World.ownsRow.alloc (w := wr) hown _) ⟨wr.heap.size, 0, none⟩ 1 1 [encStr x] rfl rfl (by exact cell_one_new wr _ _) (by simp [Value.oneCell', encStr]) (by omega) ?_; intro w3 hown3 hg3))
                  go_roundw
                  case rel =>
                    have e1 : k2 + 1 ≤ xs.length := by omega
                    have e2 : (z ++ [x]).length ≤ k2 + 1 := by simp; omega
                    have e3 : ∀ u : Txt, u ∈ z ++ [x] ↔ u ∈ xs.take (k2 + 1) := fun u => by rw [mem_take_succ HX.out, List.mem_append, HZ.out u, List.mem_singleton]
                    have e4 : w3.ownsRow w1.heap.size 9 1 (.slice (some ⟨w1.heap.size, 0, none⟩) (z ++ [x]).length (xs.length + ys.length)) (z ++ [x]).length ((z ++ [x]).map encStr) := by simpa using hown3
                    first | exact ⟨k2 + 1, z ++ [x], e1, e2, e3, sl_snoc _ z x _, int_succ k2, e4, below_step hb2 hg3⟩ | ((repeat apply Exists.intro); exact ⟨⟨k2 + 1, z ++ [x], e1, e2, e3, sl_snoc _ z x _, int_succ k2, e4, below_step hb2 hg3⟩, rfl⟩)
                  case measure => simp [intOf]; omega
                · obtain rfl : k2 = xs.length := by omega
                  have hz' : ∀ u : Txt, u ∈ z ↔ u ∈ xs ∨ u ∈ ys.take 0 := fun u => by rw [hz u, List.take_length]; simp
                  clear hz
                  go_wp2
                  go_loopw [10, 12] (fun v i wr => ∃ (k : Nat) (z : List Txt), k ≤ ys.length ∧ z.length ≤ xs.length + k ∧ (∀ u : Txt, u ∈ z ↔ u ∈ xs ∨ u ∈ ys.take k) ∧ v = .slice (some ⟨w1.heap.size, 0, none⟩) z.length (xs.length + ys.length) ∧ i = .int .i64 k ∧
                      wr.ownsRow w1.heap.size 9 1 (.slice (some ⟨w1.heap.size, 0, none⟩) z.length (xs.length + ys.length)) z.length (z.map encStr) ∧ Below w1.heap.size w1 wr)
                    (fun _ i _ => ys.length - (intOf i).toNat)
                  case atStart => exact ⟨0, z, by omega, by omega, hz', rfl, rfl, hown, hb2⟩
                  case round =>
                    clear hz' hown hb2 hzl hk2
                    obtain ⟨k3, z, hk3, hzl, hz, rfl, rfl, hown, hb2⟩ := hrel
                    by_cases hlt3 : k3 < ys.length
                    · obtain ⟨x, hkx⟩ : ∃ x, ys[k3]? = some x := ⟨_, List.getElem?_eq_getElem hlt3⟩
                      obtain ⟨g, off, rfl, hg, hcx⟩ := (hSb.below hb2) k3 x hkx
                      have HX : Hid (ys[k3]? = some x) := hkx
                      have HZ : Hid (∀ u : Txt, u ∈ z ↔ u ∈ xs ∨ u ∈ ys.take k3) := hz
                      clear hkx hxs hys hz
                      go_wp2_with (first | (at_builtin; refine wpList_append_fits _ rfl (.tmp 95) (.tmp 100) 22 rfl w1.heap.size 9 i0 1 Try.underlying22 hi hz1 w1.heap.size z.length (xs.length + ys.length) (z.map encStr) rfl (by exact World.ownsRow.alloc (w := wr) hown _) ⟨wr.heap.size, 0, none⟩ 1 1 [encStr x] rfl rfl (by exact cell_one_new wr _ _) (by simp [Value.oneCell', encStr]) (by omega) ?_; intro w3 hown3 hg3))
                      go_roundw
                      case rel =>
                        have e1 : k3 + 1 ≤ ys.length := by omega
                        have e2 : (z ++ [x]).length ≤ xs.length + (k3 + 1) := by simp; omega
                        have e3 : ∀ u : Txt, u ∈ z ++ [x] ↔ u ∈ xs ∨ u ∈ ys.take (k3 + 1) := fun u => by rw [mem_take_succ HX.out, List.mem_append, HZ.out u, List.mem_singleton, or_assoc]
                        have e4 : w3.ownsRow w1.heap.size 9 1 (.slice (some ⟨w1.heap.size, 0, none⟩) (z ++ [x]).length (xs.length + ys.length)) (z ++ [x]).length ((z ++ [x]).map encStr) := by simpa using hown3
                        first | exact ⟨k3 + 1, z ++ [x], e1, e2, e3, sl_snoc _ z x _, int_succ k3, e4, below_step hb2 hg3⟩ | ((repeat apply Exists.intro); exact ⟨⟨k3 + 1, z ++ [x], e1, e2, e3, sl_snoc _ z x _, int_succ k3, e4, below_step hb2 hg3⟩, rfl⟩)
                      case measure => simp [intOf]; omega
                    · obtain rfl : k3 = ys.length := by omega
                      have HZ : Hid (∀ u : Txt, u ∈ z ↔ u ∈ xs ∨ u ∈ ys) := fun u => by rw [hz u, List.take_length]
                      clear hz
                      have hRx : Rd wr.heap.size wr a' xs := (hRa'.below hb2).mono hb2.size
                      have hRy : Rd wr.heap.size wr b' ys := (hSb.below hb2).mono hb2.size
                      have hRz : Rd wr.heap.size wr (some ⟨w1.heap.size, 0, none⟩) z := rd_of_own hown
                      have hbel2 : Below w'.heap.size w' wr := hbel.trans (hb2.mono hbel.size)
                      have hxm : ∀ x ∈ xs, x.length ≤ maxLen := hxs
                      have hym : ∀ y ∈ ys, y.length ≤ maxLen := hys
                      have hzm : ∀ y ∈ z, y.length ≤ maxLen := fun u hu => by
                        rcases (HZ.out u).1 hu with h | h
                        · exact hxs u h
                        · exact hys u h
                      clear hxs hys hx2 hy2 hRa' hSb hown hb2 hbel hrow2 hg2 hne
                      go_wp2_with fail
                      refine (sorted_any a' c' xs wr hRx (by omega) hxm).mono ?_
                      rintro e wA ⟨gA, cA, tA, rfl, ascA, memA, ownA, bA⟩
                      have hbelA : Below w'.heap.size w' wA := hbel2.trans (bA.mono hbel2.size)
                      have RxA : Rd wA.heap.size wA a' xs := (hRx.below bA).mono bA.size
                      have RyA : Rd wA.heap.size wA b' ys := (hRy.below bA).mono bA.size
                      have RzA : Rd wA.heap.size wA (some ⟨w1.heap.size, 0, none⟩) z := (hRz.below bA).mono bA.size
                      have RtA : Rd wA.heap.size wA (some ⟨gA, 0, none⟩) tA := rd_of_own ownA
                      have hlA : tA.length ≤ xs.length := nodup_le _ _ ascA.nodup (fun x hx => (memA x).1 hx)
                      have MA : Hid (∀ x, x ∈ tA ↔ x ∈ xs) := memA
                      clear hRx hRy hRz hbel2 bA ownA memA
                      go_wp2_with fail
                      refine (sorted_any b' d' ys wA RyA (by omega) hym).mono ?_
                      rintro e wB ⟨gB, cB, tB, rfl, ascB, memB, ownB, bB⟩
                      have hbelB : Below w'.heap.size w' wB := hbelA.trans (bB.mono hbelA.size)
                      have RxB : Rd wB.heap.size wB a' xs := (RxA.below bB).mono bB.size
                      have RyB : Rd wB.heap.size wB b' ys := (RyA.below bB).mono bB.size
                      have RzB : Rd wB.heap.size wB (some ⟨w1.heap.size, 0, none⟩) z := (RzA.below bB).mono bB.size
                      have RtAB : Rd wB.heap.size wB (some ⟨gA, 0, none⟩) tA := (RtA.below bB).mono bB.size
                      have RtB : Rd wB.heap.size wB (some ⟨gB, 0, none⟩) tB := rd_of_own ownB
                      have hlB : tB.length ≤ ys.length := nodup_le _ _ ascB.nodup (fun x hx => (memB x).1 hx)
                      have MB : Hid (∀ x, x ∈ tB ↔ x ∈ ys) := memB
                      clear RxA RyA RzA RtA hbelA bB ownB memB
                      go_wp2_with fail
                      refine (sorted_any (some ⟨w1.heap.size, 0, none⟩) (xs.length + ys.length) z wB RzB (by omega) hzm).mono ?_
                      rintro e wC ⟨gC, cC, tC, rfl, ascC, memC, ownC, bC⟩
                      have hbelC : Below w'.heap.size w' wC := hbelB.trans (bC.mono hbelB.size)
                      have RxC : Rd wC.heap.size wC a' xs := (RxB.below bC).mono bC.size
                      have RyC : Rd wC.heap.size wC b' ys := (RyB.below bC).mono bC.size
                      have RtAC : Rd wC.heap.size wC (some ⟨gA, 0, none⟩) tA := (RtAB.below bC).mono bC.size
                      have RtBC : Rd wC.heap.size wC (some ⟨gB, 0, none⟩) tB := (RtB.below bC).mono bC.size
                      have RtC : Rd wC.heap.size wC (some ⟨gC, 0, none⟩) tC := rd_of_own ownC
                      have hlC : tC.length ≤ z.length := nodup_le _ _ ascC.nodup (fun x hx => (memC x).1 hx)
                      have MC : Hid (∀ x, x ∈ tC ↔ x ∈ z) := memC
                      clear RxB RyB RzB RtAB RtB hbelB bC ownC memC
                      go_wp2_with fail
                      refine (same_any (some ⟨gA, 0, none⟩) a' cA c' tA xs wC RtAC RxC ascA MA.out (by omega) (by omega)).mono ?_
                      rintro e wD ⟨rfl, bD⟩
                      have hbelD : Below w'.heap.size w' wD := hbelC.trans (bD.mono hbelC.size)
                      have RyD : Rd wD.heap.size wD b' ys := (RyC.below bD).mono bD.size
                      have RtAD : Rd wD.heap.size wD (some ⟨gA, 0, none⟩) tA := (RtAC.below bD).mono bD.size
                      have RtBD : Rd wD.heap.size wD (some ⟨gB, 0, none⟩) tB := (RtBC.below bD).mono bD.size
                      have RtCD : Rd wD.heap.size wD (some ⟨gC, 0, none⟩) tC := (RtC.below bD).mono bD.size
                      clear RxC RyC RtAC RtBC RtC hbelC bD
                      go_wp2_with fail
                      refine (same_any (some ⟨gB, 0, none⟩) b' cB d' tB ys wD RtBD RyD ascB MB.out (by omega) (by omega)).mono ?_
                      rintro e wE ⟨rfl, bE⟩
                      have hbelE : Below w'.heap.size w' wE := hbelD.trans (bE.mono hbelD.size)
                      have RtAE : Rd wE.heap.size wE (some ⟨gA, 0, none⟩) tA := (RtAD.below bE).mono bE.size
                      have RtBE : Rd wE.heap.size wE (some ⟨gB, 0, none⟩) tB := (RtBD.below bE).mono bE.size
                      have RtCE : Rd wE.heap.size wE (some ⟨gC, 0, none⟩) tC := (RtCD.below bE).mono bE.size
                      clear RyD RtAD RtBD RtCD hbelD bE
                      go_wp2_with fail
                      refine (union_any (some ⟨gA, 0, none⟩) (some ⟨gB, 0, none⟩) cA cB tA tB wE RtAE RtBE ascA ascB (by omega) (by omega)).mono ?_
                      rintro e wF ⟨cF, zF, rfl, ascF, memF, ownF, bF⟩
                      have hbelF : Below w'.heap.size w' wF := hbelE.trans (bF.mono hbelE.size)
                      have RtCF : Rd wF.heap.size wF (some ⟨gC, 0, none⟩) tC := (RtCE.below bF).mono bF.size
                      have RtF : Rd wF.heap.size wF (some ⟨wE.heap.size, 0, none⟩) zF := rd_of_own ownF
                      have hzt : zF = tC := ascF.unique ascC (fun x => by rw [memF x, MA.out x, MB.out x, MC.out x, HZ.out x])
                      subst hzt
                      clear RtAE RtBE RtCE hbelE bF ownF memF
                      go_wp2_with fail
                      refine (equal_any wF.heap.size (some ⟨gC, 0, none⟩) (some ⟨wE.heap.size, 0, none⟩) cC cF zF wF RtCF RtF (by omega)).mono ?_
                      rintro e wG ⟨rfl, q, rfl⟩
                      go_wp2
                      go_ret
                      exact ⟨rfl, below_drewN hbelF q⟩
end Go.Proofs.Qxb6613705a
