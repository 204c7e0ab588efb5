/-
  The walk of FnGroupHeapSwapScriptPermutesAndKeepsPlaces: for every three slices of numbers it returns true.
-/
import Derived.Test.Qxb6614139aLaw6
import Derived.Deep.DeepCutAuto
import Derived.Deep.RegionWith
namespace Go.Proofs.Qxb6614139a
open Go.RowKit

theorem hid {p : Prop} (h : p) : Hid p := h

/-- What lies below T has not turned: the heap stands as it stood. -/
theorem Run.below {S O n T : Nat} {nx : Nat → Int} {P H : Nat → Nat} {w w' : World} (r : Run S O n nx P H w) (hS : S < T) (hO : O < T) (hP : ∀ t, t < n → P t < T) (hb : Below T w w') : Run S O n nx P H w' :=
  ⟨r.so, r.ps, r.inj, r.hlt, r.hinj, fun k hk => (hb.cell (p := ⟨S, k, none⟩) hS).trans (r.hc k hk), fun k hk => (hb.frozen (p := ⟨S, k, none⟩) hS).trans (r.hf k hk), fun k hk => (hb.cell (p := ⟨O, k, none⟩) hO).trans (r.oc k hk),
    fun t ht => (hb.cell (p := ⟨P t, 2, none⟩) (hP t ht)).trans (r.gn t ht), fun k hk => (hb.cell (p := ⟨P (H k), 3, none⟩) (hP _ (r.hlt k hk))).trans (r.ga k hk), fun t ht => (hb.frozen (p := ⟨P t, 3, none⟩) (hP t ht)).trans (r.gf t ht)⟩

/-- ZZswap, its four stores told. -/
theorem swapW_any (S O n : Nat) (nx : Nat → Int) (P H : Nat → Nat) (i j : Nat) (w : World) (r : Run S O n nx P H w) (hi : i < n) (hj : j < n) :
    Calls Try.prog 14 #[.slice (some ⟨S, 0, none⟩) n n, .int .i64 i, .int .i64 j] w fun e w' => e = .returned (.tuple #[]) ∧ ∃ q, w' = (swapped S P H i j w).drewN q := by
  go_enter Try.func14, Try.ntmps14
  go_wp2_with (first | (go_at_call 19; refine (swap19_any S O n nx P H i j w r hi hj).mono ?_; rintro e w' ⟨rfl, q, rfl⟩))
  go_end0
  exact ⟨rfl, q, rfl⟩

theorem swapped_cell {S : Nat} {P H : Nat → Nat} {i j : Nat} {w : World} {a : Addr} (hS : a.block ≠ S) (hi : a.block ≠ P (H i)) (hj : a.block ≠ P (H j)) : (swapped S P H i j w).cell? a = w.cell? a := by
  unfold swapped
  rw [World.cell?_setCell_other _ _ _ _ (fun e => hi (by rw [← e])), World.cell?_setCell_other _ _ _ _ (fun e => hj (by rw [← e])), World.cell?_setCell_other _ _ _ _ (fun e => hS (by rw [← e])), World.cell?_setCell_other _ _ _ _ (fun e => hS (by rw [← e]))]

/-- The tags: at place k the number H k. -/
structure Tags (T n : Nat) (H : Nat → Nat) (w : World) : Prop where
  tc : ∀ k, k < n → w.cell? ⟨T, k, none⟩ = some (.int .i64 (H k))
  tf : ∀ k, k < n → w.frozen? ⟨T, k, none⟩ = false

theorem Tags.swap {T n : Nat} {H : Nat → Nat} {w : World} (r : Tags T n H w) (i j : Nat) : Tags T n (sw H i j) ((w.setCell ⟨T, i, none⟩ (.int .i64 (H j))).setCell ⟨T, j, none⟩ (.int .i64 (H i))) := by
  refine ⟨fun k hk => ?_, fun k hk => by simp [r.tf k hk]⟩
  rw [cell_set (cell_set (r.tc k hk))]
  simp only [Addr.mk.injEq, true_and, and_true, Option.some.injEq]
  by_cases e2 : j = k
  · subst e2; rw [if_pos rfl, sw_j]
  · rw [if_neg e2]
    by_cases e1 : i = k
    · subst e1; rw [if_pos rfl, sw_i]
    · rw [if_neg e1, sw_other H (Ne.symm e1) (Ne.symm e2)]

theorem info3 : (Try.prog.info? 3).map (fun i => (i.zero, i.size, i.bytes)) = some (some (.int .i64 0), 1, 8) := by kernel_rfl

theorem bytes5_any (ao bo co : Option Addr) (n m l c d e : Nat) (w : World) (hn : n ≤ maxLen) (hm : m ≤ maxLen) (hl : l ≤ maxLen) :
    Calls Try.prog 9 #[.slice ao n c, .slice bo m d, .slice co l e] w fun e w' => ∃ r : Bool, e = .returned (.bool r) ∧ w' = w := by
  unfold maxLen at hn hm hl
  by_cases h : 1048576 < n
  · go_enter Try.func9, Try.ntmps9
    go_wp2
    go_ret
    exact ⟨false, rfl, rfl⟩
  by_cases h1 : 1048576 < m
  · go_enter Try.func9, Try.ntmps9
    go_wp2
    go_ret
    exact ⟨false, rfl, rfl⟩
  by_cases h2 : 1048576 < n + m
  · go_enter Try.func9, Try.ntmps9
    go_wp2
    go_ret
    exact ⟨false, rfl, rfl⟩
  by_cases h3 : 1048576 < l
  · go_enter Try.func9, Try.ntmps9
    go_wp2
    go_ret
    exact ⟨false, rfl, rfl⟩
  by_cases h4 : 1048576 < n + m + l
  · go_enter Try.func9, Try.ntmps9
    go_wp2
    go_ret
    exact ⟨false, rfl, rfl⟩
  · go_enter Try.func9, Try.ntmps9
    go_wp2
    go_ret
    exact ⟨true, rfl, rfl⟩

set_option maxRecDepth 100000 in
set_option maxHeartbeats 1000000 in
theorem law5_any (ao bo co : Option Addr) (n ni nj c d e : Nat) (nx fi fj : Nat → Int) (w : World) (hN : Nums w.heap.size w ao n nx) (hI : Nums w.heap.size w bo ni fi) (hJ : Nums w.heap.size w co nj fj) (hn : n ≤ maxLen) (hni : ni ≤ maxLen) (hnj : nj ≤ maxLen) :
    Calls Try.prog 5 #[.slice ao n c, .slice bo ni d, .slice co nj e] w fun e w' => e = .returned (.bool true) ∧ Below w.heap.size w w' := by
  have hby := bytes5_any ao bo co n ni nj c d e w hn hni hnj
  unfold maxLen at hn hni hnj
  go_enter Try.func5, Try.ntmps5
  go_wp2_with fail
  refine hby.mono ?_
  rintro e w' ⟨r, rfl, rfl⟩
  clear hby
  cases r
  · go_wp2
    go_ret
    exact ⟨rfl, Below.refl _ _⟩
  by_cases hn1 : 4096 < n
  · go_wp2
    go_ret
    exact ⟨rfl, Below.refl _ _⟩
  by_cases hn2 : 4096 < ni
  · go_wp2
    go_ret
    exact ⟨rfl, Below.refl _ _⟩
  by_cases hn3 : 4096 < nj
  · go_wp2
    go_ret
    exact ⟨rfl, Below.refl _ _⟩
  have b0 : decide ((4096 : Int) < (n : Int)) = false := by simp; omega
  have b1 : decide ((4096 : Int) < (ni : Int)) = false := by simp; omega
  have b2 : decide ((4096 : Int) < (nj : Int)) = false := by simp; omega
  go_upto_if 42 with (fail)
  go_cut [8] (fun s8 wc => ∃ m : Nat, s8 = .int .i64 m ∧ m ≤ ni ∧ m ≤ nj ∧ wc = w')
  case first =>
    by_cases hlt : nj < ni
    · go_wp2
      go_meet
      case rel => exact ⟨nj, rfl, by omega, by omega, rfl⟩
    · go_wp2
      go_meet
      case rel => exact ⟨ni, rfl, by omega, by omega, rfl⟩
  case rest =>
    obtain ⟨m, rfl, hm1, hm2, hwc⟩ := hcut
    subst hwc
    go_wp2
    go_loop [9] (fun a => ∃ t : Nat, t ≤ m ∧ a = .int .i64 t ∧ ∀ s, s < t → (0 ≤ fi s ∧ fi s < n) ∧ (0 ≤ fj s ∧ fj s < n)) (fun a => m - (intOf a).toNat)
    case atStart => exact ⟨0, by omega, rfl, fun s hs => by omega⟩
    case round =>
      obtain ⟨t, ht, rfl, hall⟩ := hrel
      by_cases hlt : t < m
      · obtain ⟨g, off, rfl, hg, hci⟩ := hI t (by omega)
        obtain ⟨g', off', rfl, hg', hcj⟩ := hJ t (by omega)
        have HA : Hid (∀ s, s < t → (0 ≤ fi s ∧ fi s < n) ∧ (0 ≤ fj s ∧ fj s < n)) := hall
        clear hall
        rcases (show fi t < 0 ∨ (0 ≤ fi t ∧ (n : Int) ≤ fi t) ∨ (0 ≤ fi t ∧ fi t < n ∧ fj t < 0) ∨ (0 ≤ fi t ∧ fi t < n ∧ 0 ≤ fj t ∧ (n : Int) ≤ fj t) ∨ (0 ≤ fi t ∧ fi t < n ∧ 0 ≤ fj t ∧ fj t < n) from by omega) with h | ⟨h1, h2⟩ | ⟨h1, h2, h3⟩ | ⟨h1, h2, h3, h4⟩ | ⟨h1, h2, h3, h4⟩
        ·
          go_wp2
          go_ret
          exact ⟨rfl, Below.refl _ _⟩
        ·
          go_wp2
          go_ret
          exact ⟨rfl, Below.refl _ _⟩
        ·
          go_wp2
          go_ret
          exact ⟨rfl, Below.refl _ _⟩
        ·
          go_wp2
          go_ret
          exact ⟨rfl, Below.refl _ _⟩
        ·
          go_wp2
          go_round
          case rel => exact ⟨t + 1, by omega, by go_num, fun s hs => by rcases (show s < t ∨ s = t from by omega) with e | rfl; exact HA.out s e; exact ⟨⟨h1, h2⟩, h3, h4⟩⟩
          case measure => simp [intOf]; omega
      · obtain rfl : t = m := by omega
        have HA : Hid (∀ s, s < t → (0 ≤ fi s ∧ fi s < n) ∧ (0 ≤ fj s ∧ fj s < n)) := hall
        clear hall
        go_wp2_with fail
        refine (new_any n wc (by omega)).mono ?_
        rintro e w1 ⟨rfl, hS1, hg1⟩
        have hs1 : wc.heap.size < w1.heap.size := (Array.getElem?_eq_some_iff.1 hS1).1
        go_wp2_with fail
        refine (new_any n w1 (by omega)).mono ?_
        rintro e w2 ⟨rfl, hO2, hg2⟩
        have hb2 : Below wc.heap.size wc w2 := (below_make hg1).trans ((below_make hg2).mono (Nat.le_of_lt hs1))
        have hS2 : w2.heap[wc.heap.size]? = some (.cells (List.replicate n (Value.pointer none)).toArray 36 (0, 0)) := (hg2.block _ hs1 (by simp)).trans hS1
        clear hg1 hg2 hS1
        go_wp2
        go_loopw [12] (fun a wr => ∃ (m : Nat) (P : Nat → Nat), m ≤ n ∧ a = .int .i64 m ∧ Build wc.heap.size w1.heap.size n m nx P wr ∧ Below wc.heap.size wc wr) (fun a _ => n - (intOf a).toNat)
        case atStart => exact ⟨0, fun _ => 0, by omega, rfl, Build.start hs1 hS2 hO2, hb2⟩
        case round =>
          clear hb2 hS2 hO2
          obtain ⟨m, P, hm, rfl, hB, hbel⟩ := hrel
          by_cases hlt2 : m < n
          ·
            obtain ⟨g, off, rfl, hg, hcx⟩ := (hN.below hbel) m hlt2
            have hset := set_any wc.heap.size n n m (nx m) m _ wr (Nat.lt_trans hB.so hB.sz) hlt2 (hB.hz m (Nat.le_refl _) hlt2) (hB.hf m hlt2)
            go_wp2_with fail
            refine hset.mono ?_
            rintro e wA ⟨rfl, cs, hwA, hc2, hc3⟩
            have hso := hB.so
            have hsz := hB.sz
            have cA : wA.cell? ⟨wc.heap.size, m, none⟩ = some (ptr wr.heap.size) := by
              rw [hwA]; exact cell_alloc (World.cell?_setCell_same _ _ _ (hB.hz m (Nat.le_refl _) hlt2))
            have oA : wA.cell? ⟨w1.heap.size, m, none⟩ = some (.pointer none) := by
              rw [hwA]; exact cell_alloc (by rw [World.cell?_setCell_other _ _ _ _ (fun e => by injection e; omega)]; exact hB.oz m (Nat.le_refl _) hlt2)
            have fA : wA.frozen? ⟨w1.heap.size, m, none⟩ = false := by
              rw [hwA, frozen_alloc_lt (by simp; omega), World.frozen?_setCell]; exact hB.fo m hlt2
            have HW : Hid (wA = (wr.setCell ⟨wc.heap.size, m, none⟩ (ptr wr.heap.size)).alloc (.cells cs 54)) := hwA
            clear hwA hset
            go_wp2_with fail
            refine (groupOf_any wc.heap.size n n m wr.heap.size wA hlt2 cA).mono ?_
            rintro e wB ⟨rfl, rfl⟩
            go_wp2_with fail
            refine (put_any w1.heap.size n n m wr.heap.size _ wB hlt2 oA fA).mono ?_
            rintro e wC ⟨rfl, rfl⟩
            go_wp2
            go_roundw
            case rel =>
              refine ⟨m + 1, (fun t => if t = m then wr.heap.size else P t), by omega, by go_num, ?_, ?_⟩
              · rw [HW.out]; exact hB.step hlt2 hc2 hc3
              · rw [HW.out]; exact ((hbel.setCell (Nat.le_refl _) _).alloc (by simp; omega) _).setCell (Nat.le_of_lt hso) _
            case measure => simp [intOf]; omega
          · have hmn : m = n := by omega
            subst hmn
            have hR := hB.run
            have hso := hB.so
            have hP : ∀ t, t < m → wc.heap.size ≤ P t ∧ P t < wr.heap.size := fun t ht => by have := hB.po t ht; omega
            have hsz := hB.sz
            clear hB hlt2 hm
            obtain ⟨i0, hi, hz0, hz1, hz2⟩ := info_parts info3
            go_wp2_with (first
              | (at_make; refine wpList_make_full _ rfl _ _ 29 rfl wr.heap.size 3 i0 (.int .i64 0) 1 Try.underlying29 hi hz0 hz1 _ _ _ _ m rfl rfl rfl rfl (by rw [hz2]; omega) (by unfold maxLen; omega) (by exact Nat.le_refl _) ?_; intro w3 hrow3 hg3))
            have hb3 := block_of_full hrow3
            rw [made_one _ _ rfl] at hb3
            have hbT : Below wr.heap.size wr w3 := below_make hg3
            have htl : wr.heap.size < w3.heap.size := (Array.getElem?_eq_some_iff.1 hb3).1
            clear hrow3 hg3
            obtain ⟨wT, hwT⟩ : ∃ wT, wT = wr := ⟨_, rfl⟩
            subst hwT
            have c0 : ∀ s, s < m → w3.cell? ⟨wT.heap.size, s, none⟩ = some (.int .i64 0) := fun s hs => by
              rw [cell_of_row w3 _ s _ 3 (0, 0) hb3]; simp [hs]
            have f0 : ∀ s, s < m → w3.frozen? ⟨wT.heap.size, s, none⟩ = false := fun s hs => frozen_of_row w3 _ s _ 3 hb3
            clear hb3
            go_loopw [14] (fun a wr => ∃ k : Nat, k ≤ m ∧ a = .int .i64 k ∧ (∀ s, s < k → wr.cell? ⟨wT.heap.size, s, none⟩ = some (.int .i64 (s : Nat))) ∧ (∀ s, k ≤ s → s < m → wr.cell? ⟨wT.heap.size, s, none⟩ = some (.int .i64 0)) ∧
                (∀ s, s < m → wr.frozen? ⟨wT.heap.size, s, none⟩ = false) ∧ Below wT.heap.size wT wr ∧ wT.heap.size < wr.heap.size) (fun a _ => m - (intOf a).toNat)
            case atStart => exact ⟨0, by omega, rfl, fun s hs => by omega, fun s _ hs => c0 s hs, f0, hbT, htl⟩
            case round =>
              clear c0 f0 hbT htl
              obtain ⟨k, hk, rfl, g1, g2, g3, g4, g5⟩ := hrel
              by_cases hlt3 : k < m
              ·
                have gk := g2 k (Nat.le_refl _) hlt3
                have gf := g3 k hlt3
                have G1 : Hid (∀ s, s < k → wr.cell? ⟨wT.heap.size, s, none⟩ = some (.int .i64 (s : Nat))) := g1
                have G2 : Hid (∀ s, k ≤ s → s < m → wr.cell? ⟨wT.heap.size, s, none⟩ = some (.int .i64 0)) := g2
                have G3 : Hid (∀ s, s < m → wr.frozen? ⟨wT.heap.size, s, none⟩ = false) := g3
                clear g1 g2 g3
                go_wp2
                go_roundw
                case rel =>
                  refine ⟨k + 1, by omega, by go_num, fun s hs => ?_, fun s hs1 hs2 => ?_, fun s hs => by rw [World.frozen?_setCell]; exact G3.out s hs, g4.setCell (Nat.le_refl _) _, by simpa using g5⟩
                  · by_cases e : s = k
                    · subst e; exact World.cell?_setCell_same _ _ _ gk
                    · rw [World.cell?_setCell_other _ _ _ _ (fun h => by injection h; omega)]; exact G1.out s (by omega)
                  · rw [World.cell?_setCell_other _ _ _ _ (fun h => by injection h; omega)]; exact G2.out s (by omega) hs2
                case measure => simp [intOf]; omega
              · have hkm : k = m := by omega
                subst hkm
                have hTg : Tags wT.heap.size k (fun s => s) wr := ⟨g1, g3⟩
                have hR3 : Run wc.heap.size w1.heap.size k nx P (fun s => s) wr := hR.below (by omega) hsz (fun s hs => (hP s hs).2) g4
                have hb4 : Below wc.heap.size wc wr := hbel.trans (g4.mono hbel.size)
                have hP1 : ∀ t, t < k → wc.heap.size ≤ P t := fun t ht => (hP t ht).1
                have hP2 : ∀ t, t < k → P t < wT.heap.size := fun t ht => (hP t ht).2
                have hTs : wc.heap.size < wT.heap.size := by omega
                clear g1 g2 g3 g4 hR hbel hP hlt3 hk
                go_wp2
                go_loopw [15] (fun a wr => ∃ (t' : Nat) (H : Nat → Nat), t' ≤ t ∧ a = .int .i64 t' ∧ Run wc.heap.size w1.heap.size k nx P H wr ∧ Tags wT.heap.size k H wr ∧ Below wc.heap.size wc wr) (fun a _ => t - (intOf a).toNat)
                case atStart => exact ⟨0, fun s => s, by omega, rfl, hR3, hTg, hb4⟩
                case round =>
                  clear hR3 hTg hb4
                  obtain ⟨t', H, ht', rfl, hR3, hTg, hb4⟩ := hrel
                  by_cases hlt4 : t' < t
                  ·
                    obtain ⟨⟨i1, i2⟩, j1, j2⟩ := HA.out t' hlt4
                    obtain ⟨g, off, rfl, hg, hci⟩ := (hI.below hb4) t' (by omega)
                    obtain ⟨g', off', rfl, hg', hcj⟩ := (hJ.below hb4) t' (by omega)
                    obtain ⟨i, hi'⟩ := Int.eq_ofNat_of_zero_le i1
                    obtain ⟨j, hj'⟩ := Int.eq_ofNat_of_zero_le j1
                    have hik : i < k := by omega
                    have hjk : j < k := by omega
                    rw [hi'] at hci
                    rw [hj'] at hcj
                    clear i1 i2 j1 j2 hi' hj'
                    have hsw := swapW_any wc.heap.size w1.heap.size k nx P H i j wr hR3 hik hjk
                    go_wp2_with fail
                    refine hsw.mono ?_
                    rintro e wS ⟨rfl, q, hwS⟩
                    have hRS : Run wc.heap.size w1.heap.size k nx P (sw H i j) wS := by rw [hwS]; exact (hR3.swap hik hjk).drewN q
                    have hbS : Below wc.heap.size wc wS := by rw [hwS]; exact below_drewN (swapped_below hb4 (Nat.le_refl _) hP1 (hR3.hlt i hik) (hR3.hlt j hjk)) q
                    have hTS : Tags wT.heap.size k H wS := by
                      have h1 := hP2 _ (hR3.hlt i hik)
                      have h2 := hP2 _ (hR3.hlt j hjk)
                      refine ⟨fun s hs => ?_, fun s hs => ?_⟩
                      · rw [hwS]
                        exact (swapped_cell (a := ⟨wT.heap.size, s, none⟩) (by simp; omega) (by simp; omega) (by simp; omega)).trans (hTg.tc s hs)
                      · rw [hwS]
                        show (swapped wc.heap.size P H i j wr).frozen? _ = false
                        simp [swapped, hTg.tf s hs]
                    clear hwS hsw hR3 hTg hb4
                    have ti := hTS.tc i hik
                    have tj := hTS.tc j hjk
                    have tfi := hTS.tf i hik
                    have tfj := hTS.tf j hjk
                    obtain ⟨v1, e1⟩ := cell?_setCell_some (w := wS) (p := ⟨wT.heap.size, i, none⟩) (x := .int .i64 (H j)) (q := ⟨wT.heap.size, j, none⟩) tj
                    obtain ⟨wU, hwU⟩ : ∃ wU, wU = (wS.setCell ⟨wT.heap.size, i, none⟩ (.int .i64 (H j))).setCell ⟨wT.heap.size, j, none⟩ (.int .i64 (H i)) := ⟨_, rfl⟩
                    have hbU : Below wT.heap.size wS wU := by rw [hwU]; exact Below.setCell (Below.setCell (Below.refl wT.heap.size wS) (p := ⟨wT.heap.size, i, none⟩) (Nat.le_refl _) _) (p := ⟨wT.heap.size, j, none⟩) (Nat.le_refl _) _
                    have hRU : Run wc.heap.size w1.heap.size k nx P (sw H i j) wU := hRS.below hTs hsz hP2 hbU
                    have hTU : Tags wT.heap.size k (sw H i j) wU := by rw [hwU]; exact hTS.swap i j
                    have hbW : Below wc.heap.size wc wU := hbS.trans (hbU.mono (Nat.le_of_lt hTs))
                    have ci := hRU.hc i hik
                    have cj := hRU.hc j hjk
                    have ai := hRU.ga i hik
                    have aj := hRU.ga j hjk
                    have k1 := groupAt_any wc.heap.size k k i _ i wU hik ci ai
                    have k2 := groupAt_any wc.heap.size k k j _ j wU hjk cj aj
                    have K1 := hid k1
                    have K2 := hid k2
                    clear hRS hbS hTS hbU ci cj ai aj k1 k2
                    go_wp2_with fail
                    rw [← hwU]
                    clear hwU e1 ti tj tfi tfj hci hcj
                    refine K1.out.mono ?_
                    rintro e wV ⟨rfl, hV⟩
                    subst hV
                    go_wp2_with fail
                    refine K2.out.mono ?_
                    rintro e wV ⟨rfl, hV⟩
                    subst hV
                    go_wp2
                    go_roundw
                    case rel => exact ⟨t' + 1, sw H i j, by omega, by go_num, hRU, hTU, hbW⟩
                    case measure => simp [intOf]; omega
                  · have hlt5 : ¬ t' < t := hlt4
                    clear hP1 hTs HA
                    go_wp2
                    go_loopw [20] (fun a wr => ∃ s : Nat, s ≤ k ∧ a = .int .i64 s ∧ Run wc.heap.size w1.heap.size k nx P H wr ∧ Tags wT.heap.size k H wr ∧ Below wc.heap.size wc wr) (fun a _ => k - (intOf a).toNat)
                    case atStart => exact ⟨0, by omega, rfl, hR3, hTg, hb4⟩
                    case round =>
                      clear hR3 hTg hb4
                      obtain ⟨s, hs, rfl, hR3, hTg, hb4⟩ := hrel
                      by_cases hlt6 : s < k
                      · obtain ⟨p, hp⟩ : ∃ p, p = H s := ⟨_, rfl⟩
                        have hpk : p < k := by rw [hp]; exact hR3.hlt s hlt6
                        have tg : wr.cell? ⟨wT.heap.size, s, none⟩ = some (.int .i64 p) := by rw [hp]; exact hTg.tc s hlt6
                        have hc : wr.cell? ⟨wc.heap.size, s, none⟩ = some (ptr (P p)) := by rw [hp]; exact hR3.hc s hlt6
                        have ho := hR3.oc p hpk
                        have ha : wr.cell? ⟨P p, 3, none⟩ = some (.int .i64 s) := by rw [hp]; exact hR3.ga s hlt6
                        have hnn := hR3.gn p hpk
                        obtain ⟨g, off, rfl, hg, hcx⟩ := (hN.below hb4) p hpk
                        have hneq := run_neq_ptr_same
                        have c1 : ∀ q, Calls Try.prog 13 #[.slice (some ⟨wc.heap.size, 0, none⟩) k k, .int .i64 s] (wr.drewN q) fun e w' => e = .returned (ptr (P p)) ∧ w' = wr.drewN q := fun q => groupOf_any wc.heap.size k k s (P p) (wr.drewN q) hlt6 hc
                        have c2 : ∀ q, Calls Try.prog 13 #[.slice (some ⟨w1.heap.size, 0, none⟩) k k, .int .i64 p] (wr.drewN q) fun e w' => e = .returned (ptr (P p)) ∧ w' = wr.drewN q := fun q => groupOf_any w1.heap.size k k p (P p) (wr.drewN q) hpk ho
                        have C1 := hid c1
                        have C2 := hid c2
                        have HP : Hid (p = H s) := hp
                        clear hp hc ho ha hnn c1 c2
                        unfold ptr at C1 C2
                        go_wp2_with fail
                        go_quiet ((first | (go_at_call_of 13 (Value.slice (some ⟨wc.heap.size, 0, none⟩) k k); exact Calls.quiet_of_same (C1.out _)) | (go_at_call_of 13 (Value.slice (some ⟨w1.heap.size, 0, none⟩) k k); exact Calls.quiet_of_same (C2.out _))))
                        generalize hwx : wr.drewN nq = wx
                        have hR5 : Run wc.heap.size w1.heap.size k nx P H wx := by rw [← hwx]; exact hR3.drewN nq
                        have hT5 : Tags wT.heap.size k H wx := by rw [← hwx]; exact ⟨hTg.tc, hTg.tf⟩
                        have hb5 : Below wc.heap.size wc wx := by rw [← hwx]; exact below_drewN hb4 nq
                        have tg5 : wx.cell? ⟨wT.heap.size, s, none⟩ = some (.int .i64 p) := by rw [HP.out]; exact hT5.tc s hlt6
                        have hcx5 : wx.cell? ⟨g, off + p, none⟩ = some (.int .i64 (nx p)) := by rw [← hwx]; exact hcx
                        have hc : wx.cell? ⟨wc.heap.size, s, none⟩ = some (ptr (P p)) := by rw [HP.out]; exact hR5.hc s hlt6
                        have ha : wx.cell? ⟨P p, 3, none⟩ = some (.int .i64 s) := by rw [HP.out]; exact hR5.ga s hlt6
                        have hnn := hR5.gn p hpk
                        have c3 := groupAt_any wc.heap.size k k s (P p) s wx hlt6 hc ha
                        have c4 : ∀ q, Calls Try.prog 16 #[.slice (some ⟨wc.heap.size, 0, none⟩) k k, .int .i64 s] (wx.drewN q) fun e w' => e = .returned (.int .i64 (nx p)) ∧ w' = wx.drewN q := fun q => groupNext_any wc.heap.size k k s (P p) (nx p) (wx.drewN q) hlt6 hc hnn
                        have C3 := hid c3
                        have C4 := hid c4
                        clear c3 c4 hc ha hnn hwx hR3 hTg hb4 tg hcx C1 C2
                        go_wp2_with fail
                        refine C3.out.mono ?_
                        rintro e wV ⟨rfl, hV⟩
                        subst hV
                        go_wp2_with fail
                        go_quiet ((first | (go_at_call 16; exact Calls.quiet_of_same (C4.out _))))
                        go_wp2
                        go_roundw
                        case rel => exact ⟨s + 1, by omega, by go_num, hR5.drewN _, ⟨hT5.tc, hT5.tf⟩, below_drewN hb5 _⟩
                        case measure => simp [intOf]; omega
                      · go_wp2
                        go_ret
                        exact ⟨rfl, hb4⟩
end Go.Proofs.Qxb6614139a
