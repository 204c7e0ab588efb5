/-
  The walk of FnFromUTF16ByteOrderSwapAndPairing: for every slice of bytes and either byte order it returns true.
-/
import Derived.Test.Qxb6614447aShare
namespace Go.Proofs.Qxb6614447a
open Go.RowKit

theorem bytes9_any (ao : Option Addr) (n c : Nat) (big : Bool) (w : World) (hn : n ≤ maxLen) :
    Calls Try.prog 9 #[.slice ao n c, .bool big] w fun e w' => ∃ r : Bool, e = .returned (.bool r) ∧ w' = w := by
  unfold maxLen at hn
  by_cases h : 1048576 < n
  · go_enter Try.func9, Try.ntmps9
    go_wp2
    go_ret
    exact ⟨false, rfl, rfl⟩
  · go_enter Try.func9, Try.ntmps9
    go_wp2
    go_ret
    exact ⟨true, rfl, rfl⟩

theorem dec_len : ∀ (us : List Int) (odd : Bool), (dec us odd).1.length ≤ us.length
  | [], odd => by simp [dec]
  | [c], odd => by cases hc : surS c <;> simp [dec, hc]
  | c :: d :: rest, odd => by
    cases hc : surS c
    · rw [dec_one hc]
      have := dec_len (d :: rest) odd
      simp at this ⊢
      omega
    · cases hp : (hiS c && loS d)
      · rw [dec_bad hc hp]; simp
      · obtain ⟨hh, hl⟩ := (Bool.and_eq_true _ _).mp hp
        rw [dec_two hh hl]
        have := dec_len rest odd
        simp
        omega

theorem text_le : ∀ (rs : List Int), (textOf rs).length ≤ 4 * rs.length
  | [] => by simp [textOf]
  | r :: rs => by
    have h1 := text_le rs
    have h2 := (Lib.encodeRuneZ_length r).2
    have e : textOf (r :: rs) = Lib.encodeRuneZ r ++ textOf rs := by simp [textOf]
    rw [e, List.length_append, List.length_cons]
    omega

theorem made_zero (n : Nat) : (madeCells (Value.int .u8 0).cells (n * 1)).toList = List.replicate n (Value.int .u8 0) := by
  apply List.ext_getElem (by simp [madeCells])
  intro i h1 h2
  have e : i % 1 = 0 := Nat.mod_one i
  simp [madeCells, Value.cells, e]

/-- A row of bytes of the call's own, cell by cell. -/
structure Row (S n : Nat) (G : Nat → Int) (w : World) : Prop where
  rc : ∀ j, j < n → w.cell? ⟨S, j, none⟩ = some (.int .u8 (G j))
  rf : ∀ j, j < n → w.frozen? ⟨S, j, none⟩ = false

theorem Row.set {S n : Nat} {G : Nat → Int} {w : World} (r : Row S n G w) {i : Nat} (hi : i < n) (x : Int) : Row S n (fun j => if j = i then x else G j) (w.setCell ⟨S, i, none⟩ (.int .u8 x)) := by
  refine ⟨fun j hj => ?_, fun j hj => by rw [World.frozen?_setCell]; exact r.rf j hj⟩
  by_cases e : j = i
  · subst e
    rw [if_pos rfl]
    exact World.cell?_setCell_same _ _ _ (r.rc j hj)
  · rw [if_neg e, World.cell?_setCell_other _ _ _ _ (fun h => by injection h; omega)]
    exact r.rc j hj

theorem Row.ext {S n : Nat} {G G' : Nat → Int} {w : World} (r : Row S n G w) (h : ∀ j, j < n → G j = G' j) : Row S n G' w :=
  ⟨fun j hj => by rw [← h j hj]; exact r.rc j hj, r.rf⟩

theorem Row.byt {S n : Nat} {G : Nat → Int} {w : World} (r : Row S n G w) (hS : S < w.heap.size) (hG : ∀ j, j < n → 0 ≤ G j ∧ G j ≤ 255) : Byt w.heap.size w (some ⟨S, 0, none⟩) n G := fun k hk =>
  ⟨S, 0, rfl, hS, by rw [Nat.zero_add]; exact r.rc k hk, hG k hk⟩

/-- The bytes with the first k pairs exchanged. -/
def swf (f : Nat → Int) (k : Nat) : Nat → Int := fun j => if j < 2 * k then (if j % 2 = 0 then f (j + 1) else f (j - 1)) else f j

theorem swf_zero (f : Nat → Int) : swf f 0 = f := by funext j; simp [swf]
theorem swf_step (f : Nat → Int) (k j : Nat) : (if j = 2 * k + 1 then f (2 * k) else if j = 2 * k then f (2 * k + 1) else swf f k j) = swf f (k + 1) j := by
  unfold swf
  by_cases e1 : j = 2 * k + 1
  · subst e1
    have b : 2 * k + 1 < 2 * (k + 1) := by omega
    simp [b]
  · by_cases e2 : j = 2 * k
    · subst e2
      have a : (2 * k) % 2 = 0 := by omega
      have b : 2 * k < 2 * (k + 1) := by omega
      simp [a, b]
    · rw [if_neg e1, if_neg e2]
      by_cases h : j < 2 * k
      · have h' : j < 2 * (k + 1) := by omega
        simp [h, h']
      · have h' : ¬ j < 2 * (k + 1) := by omega
        simp [h, h']

theorem unit_swf (big : Bool) (f : Nat → Int) {k m : Nat} (hk : k < m) : unit (!big) (swf f m) k = unit big f k := by
  have a : 2 * k < 2 * m := by omega
  have b : 2 * k + 1 < 2 * m := by omega
  have c : (2 * k) % 2 = 0 := by omega
  have d : ¬ (2 * k + 1) % 2 = 0 := by omega
  cases big
  · simp only [unit, swf, a, b, c, d, if_true, if_false, Bool.not_false, Nat.add_sub_cancel, Bool.false_eq_true]
    omega
  · simp only [unit, swf, a, b, c, d, if_true, if_false, Bool.not_true, Nat.add_sub_cancel, Bool.false_eq_true]
    omega

theorem units_swf (big : Bool) (f : Nat → Int) (n : Nat) : units (!big) (swf f (n / 2)) n = units big f n := by
  unfold units
  apply List.map_congr_left
  intro k hk
  exact unit_swf big f (List.mem_range.1 hk)

theorem swf_range {f : Nat → Int} {n k : Nat} (hf : ∀ j, j < n → 0 ≤ f j ∧ f j ≤ 255) (hk : 2 * k ≤ n) : ∀ j, j < n → 0 ≤ swf f k j ∧ swf f k j ≤ 255 := by
  intro j hj
  unfold swf
  split
  · split
    · exact hf _ (by omega)
    · exact hf _ (by omega)
  · exact hf j hj

/-- The flag says just what zzWellPaired says. -/
theorem flag_paired {big : Bool} {f : Nat → Int} {n : Nat} {r : Bool} (h : r = true ↔ n % 2 = 0 ∧ ∀ j, j < n / 2 → okAt (unit big f) (n / 2) j) : (dec (units big f n) (decide (n % 2 = 1))).2 = r := by
  rw [Bool.eq_iff_iff, h]
  by_cases he : n % 2 = 0
  · have e : decide (n % 2 = 1) = false := by simp; omega
    rw [e]
    have h2 := dec_paired (unit big f) (n / 2) (n / 2) 0 (by omega) (by omega) (.inl rfl)
    rw [List.drop_zero] at h2
    unfold units
    rw [h2]
    constructor
    · exact fun h3 => ⟨he, fun j hj => h3 j (Nat.zero_le _) hj⟩
    · exact fun h3 j _ hj => h3.2 j hj
  · have e : decide (n % 2 = 1) = true := by simp; omega
    rw [e, dec_odd]
    constructor
    · intro h3; cases h3
    · exact fun h3 => absurd h3.1 he

theorem text_len {big : Bool} {f : Nat → Int} {n : Nat} {L : List Int} (hL : textOf (dec (units big f n) (decide (n % 2 = 1))).1 = L) (hn : n ≤ 4194304) : L.length ≤ 12582912 := by
  have h1 := dec_len (units big f n) (decide (n % 2 = 1))
  have h2 : (units big f n).length = n / 2 := by simp [units]
  have h3 := text_le (dec (units big f n) (decide (n % 2 = 1))).1
  rw [hL] at h3
  omega

theorem FromPost.form {big : Bool} {f : Nat → Int} {n : Nat} {w w' : World} {e : Ending} (h : FromPost big f n w e w') {L : List Int} {ok : Bool} (hL : textOf (dec (units big f n) (decide (n % 2 = 1))).1 = L) (hok : (dec (units big f n) (decide (n % 2 = 1))).2 = ok) :
    ∃ ao cap, e = .returned (.tuple #[.slice ao L.length cap, .bool ok]) ∧ L.length ≤ cap ∧ Byt w'.heap.size w' ao L.length (fun k => L.getD k 0) ∧ Below w.heap.size w w' := by
  obtain ⟨v, rfl, ho, hb⟩ := h
  rw [hL] at ho
  rw [hok]
  obtain ⟨ao, cap, rfl, h1, h2⟩ := own_form ho (by rw [← hL]; exact text_bytes _)
  exact ⟨ao, cap, rfl, h1, h2, hb⟩

set_option maxRecDepth 100000 in
set_option maxHeartbeats 2000000 in
theorem law4_any (ao : Option Addr) (n c : Nat) (f : Nat → Int) (big : Bool) (w : World) (hB : Byt w.heap.size w ao n f) (hn : n ≤ maxLen) (hc : n ≤ c) :
    Calls Try.prog 4 #[.slice ao n c, .bool big] w fun e w' => e = .returned (.bool true) ∧ Below w.heap.size w w' := by
  obtain ⟨i0, hi, hz0, hz1, hz2⟩ := info_parts info5
  have hne := fun (w : World) (a : Option Addr) (n c : Nat) => run_neq_slice_nil_any (P := Try.prog) w 22 5 a n c 0 0 Try.underlying22
  have hby := bytes9_any ao n c big w hn
  have hf : ∀ j, j < n → 0 ≤ f j ∧ f j ≤ 255 := fun j hj => by obtain ⟨_, _, _, _, _, h⟩ := hB j hj; exact h
  have HF := hid hf
  unfold maxLen at hn
  clear hf
  go_enter Try.func4, Try.ntmps4
  go_wp2_with fail
  refine hby.mono ?_
  rintro e w' ⟨r, rfl, rfl⟩
  clear hby
  cases r
  · go_wp2
    go_ret
    exact ⟨rfl, Below.refl _ _⟩
  by_cases hn1 : 1048576 < n
  · go_wp2
    go_ret
    exact ⟨rfl, Below.refl _ _⟩
  have b0 : decide ((1048576 : Int) < (n : Int)) = false := by simp; omega
  go_upto_if 23 with (fail)
  go_cut [0] (fun s0 wc => ∃ (a' : Option Addr) (c' : Nat), s0 = .slice a' n c' ∧ n ≤ c' ∧ Byt wc.heap.size wc a' n f ∧ Below w'.heap.size w' wc)
  case first =>
    cases ao with
    | none =>
      go_wp2
      go_meet
      case rel => exact ⟨none, c, rfl, hc, hB, Below.refl _ _⟩
    | some ad =>
      go_wp2_with (first
        | (at_make; refine wpList_make_full _ rfl _ _ 22 rfl w'.heap.size 5 i0 (.int .u8 0) 1 Try.underlying22 hi hz0 hz1 _ _ _ _ n rfl rfl rfl rfl (by rw [hz2]; omega) (by unfold maxLen; omega) (by exact Nat.le_refl _) ?_; intro w1 hrow1 hg1)
        | (refine wpList_copy_splice rfl _ _ 22 22 rfl 5 Try.underlying22 size5 _ _ _ _ _ _ rfl rfl w'.heap.size 0 _ 5 (block_of_full hrow1) (cellsOf f n) (by rw [cellsOf_len]; simp) (fun h => ⟨rfl, src_of_byt (hB.below (below_make hg1)) h⟩) (by rw [made_len, cellsOf_len]; simp) (cellsOf_one f n) w'.heap.size w' (below_make hg1) (Nat.le_refl _) ?_; intro w2 hblk hb2))
      go_meet
      case rel =>
        have hblk' := hblk.out
        rw [splice_all _ _ (by rw [made_len, cellsOf_len])] at hblk'
        exact ⟨_, _, rfl, Nat.le_refl _, byt_of_block hblk' HF.out, hb2⟩
  case rest =>
    obtain ⟨a', c', rfl, hc', hBa, hba⟩ := hcut
    obtain ⟨w0, hw0⟩ : ∃ w0, w0 = wc := ⟨_, rfl⟩
    subst hw0
    clear hB hc
    go_wp2_with (first
      | (at_make; refine wpList_make_full _ rfl _ _ 22 rfl w0.heap.size 5 i0 (.int .u8 0) 1 Try.underlying22 hi hz0 hz1 _ _ _ _ n rfl rfl rfl rfl (by rw [hz2]; omega) (by unfold maxLen; omega) (by exact Nat.le_refl _) ?_; intro w1 hrow1 hg1))
    have hb1 := block_of_full hrow1
    rw [made_zero] at hb1
    have hR1 : Row w0.heap.size n (fun _ => 0) w1 := ⟨fun j hj => (by rw [cell_of_row w1 _ j _ 5 (0, 0) hb1]; simp [hj]), fun j _ => frozen_of_row w1 _ j _ 5 hb1⟩
    have hs1 : w0.heap.size < w1.heap.size := (Array.getElem?_eq_some_iff.1 hb1).1
    have hbm : Below w0.heap.size w0 w1 := below_make hg1
    clear hb1 hrow1 hg1 hne
    go_loopw [7] (fun a wr => ∃ k : Nat, k ≤ n ∧ a = .int .i64 k ∧ Row w0.heap.size n (fun j => if j < k then f j else 0) wr ∧ Below w0.heap.size w0 wr ∧ w0.heap.size < wr.heap.size) (fun a _ => n - (intOf a).toNat)
    case atStart => exact ⟨0, by omega, rfl, hR1.ext (fun j _ => by simp), hbm, hs1⟩
    case round =>
      clear hR1 hbm hs1
      obtain ⟨k, hk, rfl, hR1, hbm, hs1⟩ := hrel
      by_cases hlt : k < n
      · obtain ⟨g, off, rfl, hg, c0, x0, x1⟩ := (hBa.below hbm) k hlt
        have d0 := hR1.rc k hlt
        have d1 := hR1.rf k hlt
        have HR : Hid (Row w0.heap.size n (fun j => if j < k + 1 then f j else 0) (wr.setCell ⟨w0.heap.size, k, none⟩ (.int .u8 (f k)))) := (hR1.set hlt (f k)).ext (fun j _ => by
          by_cases e : j = k
          · subst e; simp
          · have : j < k + 1 ↔ j < k := by omega
            simp [e, this])
        clear hR1
        go_wp2
        go_roundw
        case rel => exact ⟨k + 1, by omega, by go_num, HR.out, hbm.setCell (Nat.le_refl _) _, by simpa using hs1⟩
        case measure => simp [intOf]; omega
      · have hR2 : Row w0.heap.size n (swf f 0) wr := by
          rw [swf_zero]
          refine hR1.ext (fun j hj => ?_)
          have hjk : j < k := by omega
          simp [hjk]
        clear hR1
        go_wp2
        go_loopw [8] (fun a wr => ∃ k : Nat, 2 * k ≤ n ∧ a = .int .i64 ((2 * k : Nat) : Int) ∧ Row w0.heap.size n (swf f k) wr ∧ Below w0.heap.size w0 wr ∧ w0.heap.size < wr.heap.size) (fun a _ => n - (intOf a).toNat)
        case atStart => exact ⟨0, by omega, rfl, hR2, hbm, hs1⟩
        case round =>
          clear hR2 hbm hs1 hlt hk
          obtain ⟨k, hk, rfl, hR2, hbm, hs1⟩ := hrel
          obtain ⟨i, hi'⟩ : ∃ i, i = 2 * k := ⟨_, rfl⟩
          rw [← hi'] at hk ⊢
          have HI := hid hi'
          by_cases hlt : i + 1 < n
          · have d0 : wr.cell? ⟨w0.heap.size, i, none⟩ = some (.int .u8 (f i)) := by
              have h := hR2.rc i (by omega)
              have e : swf f k i = f i := by unfold swf; rw [if_neg (by omega)]
              rw [e] at h; exact h
            have d1 : wr.cell? ⟨w0.heap.size, i + 1, none⟩ = some (.int .u8 (f (i + 1))) := by
              have h := hR2.rc (i + 1) (by omega)
              have e : swf f k (i + 1) = f (i + 1) := by unfold swf; rw [if_neg (by omega)]
              rw [e] at h; exact h
            have f0 := hR2.rf i (by omega)
            have f1 := hR2.rf (i + 1) hlt
            have HR : Hid (Row w0.heap.size n (swf f (k + 1)) ((wr.setCell ⟨w0.heap.size, i, none⟩ (.int .u8 (f (i + 1)))).setCell ⟨w0.heap.size, i + 1, none⟩ (.int .u8 (f i)))) := ((hR2.set (show i < n by omega) (f (i + 1))).set hlt (f i)).ext (fun j _ => by
              rw [hi']; exact swf_step f k j)
            clear hR2 hi'
            go_wp2
            go_roundw
            case rel => exact ⟨k + 1, by have := HI.out; omega, by have := HI.out; congr 1; omega, HR.out, (hbm.setCell (Nat.le_refl _) _).setCell (Nat.le_refl _) _, by simpa using hs1⟩
            case measure => simp [intOf]; omega
          · have hkn : k = n / 2 := by omega
            have hsw : Byt wr.heap.size wr (some ⟨w0.heap.size, 0, none⟩) n (swf f k) := hR2.byt hs1 (swf_range HF.out (by omega))
            have hBb : Byt wr.heap.size wr a' n f := (hBa.below hbm).mono hbm.size
            have hun : units (!big) (swf f k) n = units big f n := by rw [hkn]; exact units_swf big f n
            have hbel : Below w'.heap.size w' wr := hba.trans (hbm.mono hba.size)
            have HU := hid hun
            have HK := hid hkn
            clear hun hkn hR2 hba hbm hs1 hi' hBa
            obtain ⟨L, hL⟩ : ∃ L, textOf (dec (units big f n) (decide (n % 2 = 1))).1 = L := ⟨_, rfl⟩
            obtain ⟨ok, hok⟩ : ∃ ok, (dec (units big f n) (decide (n % 2 = 1))).2 = ok := ⟨_, rfl⟩
            have z1 : Calls Try.prog 6 #[.slice a' n c', .bool big] wr fun e w' => ∃ ao cap, e = .returned (.tuple #[.slice ao L.length cap, .bool ok]) ∧ L.length ≤ cap ∧ Byt w'.heap.size w' ao L.length (fun k => L.getD k 0) ∧ Below wr.heap.size wr w' :=
              (zzfrom_any a' n c' f big wr hBb (by omega) hc').mono (fun e w' h => h.form hL hok)
            have z2 : ∀ wx, Below wr.heap.size wr wx → Calls Try.prog 6 #[.slice (some ⟨w0.heap.size, 0, none⟩) n n, .bool (!big)] wx fun e w' => ∃ ao cap, e = .returned (.tuple #[.slice ao L.length cap, .bool ok]) ∧ L.length ≤ cap ∧ Byt w'.heap.size w' ao L.length (fun k => L.getD k 0) ∧ Below wx.heap.size wx w' := fun wx hb =>
              (zzfrom_any _ n n (swf f k) (!big) wx ((hsw.below hb).mono hb.size) (by omega) (Nat.le_refl _)).mono (fun e w' h => h.form (by rw [HU.out]; exact hL) (by rw [HU.out]; exact hok))
            have Z1 := hid z1
            have Z2 := hid z2
            have HL := hid hL
            have HOK := hid hok
            clear z1 z2 hL hok hsw
            go_wp2_with fail
            refine Z1.out.mono ?_
            rintro e wA ⟨t1, p1, rfl, hp1, B1, bA⟩
            go_wp2_with fail
            refine (Z2.out wA bA).mono ?_
            rintro e wC ⟨t2, p2, rfl, hp2, B2, bC⟩
            have B1' : Byt wC.heap.size wC t1 L.length (fun k => L.getD k 0) := (B1.below bC).mono bC.size
            have hBc : Byt wC.heap.size wC a' n f := (((hBb.below bA).mono bA.size).below bC).mono bC.size
            have hbC : Below w'.heap.size w' wC := (hbel.trans (bA.mono hbel.size)).trans (bC.mono (Nat.le_trans hbel.size bA.size))
            have hLn : L.length ≤ 12582912 := text_len HL.out (by omega)
            clear Z1 Z2 bA bC B1 hBb hbel
            go_wp2
            go_loopw [14] (fun a wr => ∃ k q : Nat, k ≤ L.length ∧ a = .int .i64 k ∧ wr = wC.drewN q) (fun a _ => L.length - (intOf a).toNat)
            case atStart => exact ⟨0, 0, by omega, rfl, rfl⟩
            case round =>
              obtain ⟨s, q, hs, rfl, rfl⟩ := hrel
              by_cases hlt2 : s < L.length
              · obtain ⟨g, off, rfl, hg, e0, _, _⟩ := B1' s hlt2
                obtain ⟨g', off', rfl, hg', e1, _, _⟩ := B2 s hlt2
                obtain ⟨z, hz⟩ : ∃ z, z = L.getD s 0 := ⟨_, rfl⟩
                have e0' : wC.cell? ⟨g, off + s, none⟩ = some (.int .u8 z) := by rw [hz]; exact e0
                have e1' : wC.cell? ⟨g', off' + s, none⟩ = some (.int .u8 z) := by rw [hz]; exact e1
                clear e0 e1 hz
                go_wp2
                go_quiet (fail)
                go_wp2
                go_roundw
                case rel => exact ⟨s + 1, q + nq, by omega, by go_num, by simp⟩
                case measure => simp [intOf]; omega
              · have pp := paired_any wC.heap.size a' n c' f big (wC.drewN q) hBc (by omega)
                have PP := hid pp
                clear pp
                go_wp2_with fail
                refine PP.out.mono ?_
                rintro e wD ⟨r, rfl, hr, q2, rfl⟩
                have hrok : ok = r := by rw [← HOK.out]; exact flag_paired hr
                subst hrok
                clear hr PP
                go_wp2
                go_ret
                exact ⟨by simp, below_drewN hbC (q + q2)⟩
end Go.Proofs.Qxb6614447a
