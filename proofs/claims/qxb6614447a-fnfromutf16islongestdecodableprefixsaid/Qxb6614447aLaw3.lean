/-
  The walk of FnFromUTF16IsLongestDecodablePrefix: for every slice of bytes and either byte order it returns true.
-/
import Derived.Test.Qxb6614447aEncode
import Derived.Test.Qxb6614447aLaw4
namespace Go.Proofs.Qxb6614447a
open Go.RowKit

theorem put_unit {big : Bool} {f : Nat → Int} {a : Nat} (x0 : 0 ≤ f (2 * a)) (x1 : f (2 * a) ≤ 255) (y0 : 0 ≤ f (2 * a + 1)) (y1 : f (2 * a + 1) ≤ 255) : putS big (unit big f a) = [f (2 * a), f (2 * a + 1)] := by
  unfold putS unit
  cases big <;> simp <;> omega

theorem units_back (big : Bool) (f : Nat → Int) : ∀ k, (∀ j, j < 2 * k → 0 ≤ f j ∧ f j ≤ 255) → ((List.range k).map (unit big f)).flatMap (putS big) = (List.range (2 * k)).map f
  | 0, _ => by simp
  | k + 1, h => by
    have ih := units_back big f k (fun j hj => h j (by omega))
    have h0 := h (2 * k) (by omega)
    have h1 := h (2 * k + 1) (by omega)
    rw [List.range_succ, List.map_append, List.flatMap_append, ih]
    rw [show 2 * (k + 1) = 2 * k + 1 + 1 by omega, List.range_succ, List.range_succ]
    simp [put_unit h0.1 h0.2 h1.1 h1.2]

theorem text_enc : ∀ rs : List Int, (textOf rs).length ≤ 3 * (rs.flatMap encS).length ∧ rs.length ≤ (rs.flatMap encS).length
  | [] => by simp [textOf]
  | r :: rs => by
    have ih := text_enc rs
    rw [text_cons, List.flatMap_cons, List.length_append, List.length_append, List.length_cons]
    by_cases h : r ≤ 65535
    · have h1 := rune_le h
      have h2 : (encS r).length = 1 := by rw [enc_one h]; rfl
      omega
    · have h1 := (Lib.encodeRuneZ_length r).2
      have h2 : (encS r).length = 2 := by unfold encS; rw [if_neg (by omega)]; rfl
      omega

/-- WHAT THE TEXT IS: the characters whose units, byte by byte, are the first 2k bytes; behind them stands nothing, or no character. -/
theorem plain3 (big : Bool) (f : Nat → Int) (n : Nat) (hf : ∀ j, j < n → 0 ≤ f j ∧ f j ≤ 255) {rs : List Int} {ok : Bool} (h1 : (dec (units big f n) (decide (n % 2 = 1))).1 = rs) (h2 : (dec (units big f n) (decide (n % 2 = 1))).2 = ok) :
    ∃ k, 2 * k ≤ n ∧ (∀ r ∈ rs, charS r) ∧ (textOf rs).length ≤ 2 * n ∧ rs.length ≤ n ∧ outB big rs = (List.range (2 * k)).map f ∧ (ok = true → 2 * k = n) ∧ (ok = false → 2 * k ≠ n ∧ Stuck ((units big f n).drop k) (decide (n % 2 = 1))) := by
  have hu : (units big f n).length = n / 2 := by simp [units]
  obtain ⟨k, k1, k2, k3, k4, k5⟩ := dec_spec (units big f n) (decide (n % 2 = 1)) (fun u hu => by
    obtain ⟨a, ha, rfl⟩ := List.mem_map.1 hu
    have ha := List.mem_range.1 ha
    exact unit_range (hf _ (by omega)).1 (hf _ (by omega)).2 (hf _ (by omega)).1 (hf _ (by omega)).2)
  rw [h1] at k2 k3
  rw [h2] at k4 k5
  rw [hu] at k1 k4
  have ht : (units big f n).take k = (List.range k).map (unit big f) := by
    unfold units
    rw [← List.map_take, List.take_range, Nat.min_eq_left k1]
  have hte := text_enc rs
  rw [k2, ht, List.length_map, List.length_range] at hte
  refine ⟨k, by omega, k3, by omega, by omega, ?_, ?_, ?_⟩
  · unfold outB
    rw [k2, ht]
    exact units_back big f k (fun j hj => hf j (by omega))
  · intro h
    have h3 := k4 h
    have : ¬ n % 2 = 1 := by simpa using h3.2
    omega
  · intro h
    refine ⟨fun h3 => ?_, k5 h⟩
    have hs := k5 h
    have e : (units big f n).drop k = [] := List.drop_eq_nil_of_le (by omega)
    have e2 : decide (n % 2 = 1) = false := by simp; omega
    rw [e, e2] at hs
    rcases hs with ⟨_, h4⟩ | ⟨c, h4, _⟩ | ⟨c, d, r, h4, _⟩
    · cases h4
    · cases h4
    · cases h4

theorem bytes5_any (ao : Option Addr) (n c : Nat) (big : Bool) (w : World) (hn : n ≤ maxLen) :
    Calls Try.prog 5 #[.slice ao n c, .bool big] w fun e w' => ∃ r : Bool, e = .returned (.bool r) ∧ w' = w := by
  unfold maxLen at hn
  by_cases h : 1048576 < n
  · go_enter Try.func5, Try.ntmps5
    go_wp2
    go_ret
    exact ⟨false, rfl, rfl⟩
  · go_enter Try.func5, Try.ntmps5
    go_wp2
    go_ret
    exact ⟨true, rfl, rfl⟩

theorem map_getD {f : Nat → Int} {K j : Nat} (hj : j < K) : ((List.range K).map f).getD j 0 = f j := by simp [List.getD, hj]

/-- What zzEncodeUTF16 hands back of the text: the first K bytes again. -/
theorem enc_form (ao : Option Addr) (T c K : Nat) (f : Nat → Int) (rs : List Int) (big : Bool) (w : World) (hT : T = (textOf rs).length) (hB : Byt w.heap.size w ao T (fun k => (textOf rs).getD k 0)) (hrs : ∀ r ∈ rs, charS r) (hlen : rs.length ≤ 4194304) (hTn : T ≤ 16777216) (ho : outB big rs = (List.range K).map f) (hf : ∀ j, j < K → 0 ≤ f j ∧ f j ≤ 255) :
    Calls Try.prog 7 #[.slice ao T c, .bool big] w fun e w' => ∃ eo cap, e = .returned (.tuple #[.slice eo K cap, .bool true]) ∧ Byt w'.heap.size w' eo K f ∧ Below w.heap.size w w' := by
  refine (encode_any ao T c _ rs big w hT rfl hB hrs hlen hTn).mono ?_
  rintro e w' ⟨v, rfl, hown, hb⟩
  rw [ho] at hown
  obtain ⟨eo, cap, hv, _, hby⟩ := own_form hown (fun x hx => by obtain ⟨j, hj, rfl⟩ := List.mem_map.1 hx; exact hf j (List.mem_range.1 hj))
  subst hv
  rw [List.length_map, List.length_range] at hby ⊢
  refine ⟨eo, cap, rfl, fun j hj => ?_, hb⟩
  have h := hby j hj
  simp only [map_getD hj] at h
  exact h
set_option maxRecDepth 100000 in
set_option maxHeartbeats 2000000 in
theorem law3_any (ao : Option Addr) (n c : Nat) (f : Nat → Int) (big : Bool) (w : World) (hB : Byt w.heap.size w ao n f) (hn : n ≤ maxLen) (hc : n ≤ c) :
    Calls Try.prog 3 #[.slice ao n c, .bool big] w fun e w' => e = .returned (.bool true) ∧ Below w.heap.size w w' := by
  obtain ⟨i0, hi, hz0, hz1, hz2⟩ := info_parts info5
  have hne := fun (w : World) (a : Option Addr) (n c : Nat) => run_neq_slice_nil_any (P := Try.prog) w 22 5 a n c 0 0 Try.underlying22
  have hby := bytes5_any ao n c big w hn
  have hf : ∀ j, j < n → 0 ≤ f j ∧ f j ≤ 255 := fun j hj => by obtain ⟨_, _, _, _, _, h⟩ := hB j hj; exact h
  have HF := hid hf
  unfold maxLen at hn
  clear hf
  go_enter Try.func3, Try.ntmps3
  go_wp2_with fail
  refine hby.mono ?_
  rintro e w' ⟨r, rfl, rfl⟩
  clear hby
  cases r
  · go_wp2
    go_ret
    exact ⟨rfl, Below.refl _ _⟩
  by_cases hn1 : 1048576 < n
  · go_wp2
    go_ret
    exact ⟨rfl, Below.refl _ _⟩
  have b0 : decide ((1048576 : Int) < (n : Int)) = false := by simp; omega
  go_upto_if 19 with (fail)
  go_cut [0] (fun s0 wc => ∃ (a' : Option Addr) (c' : Nat), s0 = .slice a' n c' ∧ n ≤ c' ∧ Byt wc.heap.size wc a' n f ∧ Below w'.heap.size w' wc)
  case first =>
    cases ao with
    | none =>
      go_wp2
      go_meet
      case rel => exact ⟨none, c, rfl, hc, hB, Below.refl _ _⟩
    | some ad =>
      go_wp2_with (first
        | (at_make; refine wpList_make_full _ rfl _ _ 22 rfl w'.heap.size 5 i0 (.int .u8 0) 1 Try.underlying22 hi hz0 hz1 _ _ _ _ n rfl rfl rfl rfl (by rw [hz2]; omega) (by unfold maxLen; omega) (by exact Nat.le_refl _) ?_; intro w1 hrow1 hg1)
        | (refine wpList_copy_splice rfl _ _ 22 22 rfl 5 Try.underlying22 size5 _ _ _ _ _ _ rfl rfl w'.heap.size 0 _ 5 (block_of_full hrow1) (cellsOf f n) (by rw [cellsOf_len]; simp) (fun h => ⟨rfl, src_of_byt (hB.below (below_make hg1)) h⟩) (by rw [made_len, cellsOf_len]; simp) (cellsOf_one f n) w'.heap.size w' (below_make hg1) (Nat.le_refl _) ?_; intro w2 hblk hb2))
      go_meet
      case rel =>
        have hblk' := hblk.out
        rw [splice_all _ _ (by rw [made_len, cellsOf_len])] at hblk'
        exact ⟨_, _, rfl, Nat.le_refl _, byt_of_block hblk' HF.out, hb2⟩
  case rest =>
    obtain ⟨a', c', rfl, hc', hBa, hba⟩ := hcut
    obtain ⟨w0, hw0⟩ : ∃ w0, w0 = wc := ⟨_, rfl⟩
    subst hw0
    clear hB hc
    obtain ⟨rs, hrs⟩ : ∃ rs, (dec (units big f n) (decide (n % 2 = 1))).1 = rs := ⟨_, rfl⟩
    obtain ⟨ok, hok⟩ : ∃ ok, (dec (units big f n) (decide (n % 2 = 1))).2 = ok := ⟨_, rfl⟩
    obtain ⟨k, k1, k2, k3, k4, k5, k6, k7⟩ := plain3 big f n HF.out hrs hok
    obtain ⟨T, hT⟩ : ∃ T, T = (textOf rs).length := ⟨_, rfl⟩
    obtain ⟨K, hK⟩ : ∃ K, K = 2 * k := ⟨_, rfl⟩
    rw [← hT] at k3
    have z1 : Calls Try.prog 6 #[.slice a' n c', .bool big] w0 fun e w' => ∃ ao cap, e = .returned (.tuple #[.slice ao T cap, .bool ok]) ∧ Byt w'.heap.size w' ao T (fun k => (textOf rs).getD k 0) ∧ Below w0.heap.size w0 w' :=
      (zzfrom_any a' n c' f big w0 hBa (by omega) hc').mono (fun e w' h => by
        obtain ⟨ao, cap, h1, _, h3, h4⟩ := h.form (L := textOf rs) (by rw [hrs]) hok
        rw [← hT] at h1 h3
        exact ⟨ao, cap, h1, h3, h4⟩)
    have z2 : ∀ (t : Option Addr) (p : Nat) (wx : World), Byt wx.heap.size wx t T (fun k => (textOf rs).getD k 0) → Calls Try.prog 7 #[.slice t T p, .bool big] wx fun e w' => ∃ eo cap, e = .returned (.tuple #[.slice eo K cap, .bool true]) ∧ Byt w'.heap.size w' eo K f ∧ Below wx.heap.size wx w' := fun t p wx hb =>
      enc_form t T p K f rs big wx hT hb k2 (by omega) (by omega) (by rw [hK]; exact k5) (fun j hj => HF.out j (by omega))
    have hKn : K ≤ n := by omega
    have p6 : ok = true → K = n := fun h => by rw [hK]; exact k6 h
    have p7 : ok = false → K ≠ n ∧ ∀ wx, Byt wx.heap.size wx a' n f → ∀ q, Calls Try.prog 8 #[.slice a' n c', .int .i64 (K : Int), .bool big] (wx.drewN q) fun e w' => e = .returned (.int .i64 0) ∧ ∃ q', w' = (wx.drewN q).drewN q' := fun h => by
      obtain ⟨h1, h2⟩ := k7 h
      refine ⟨by rw [hK]; exact h1, fun wx hb q => ?_⟩
      rw [hK]
      exact codeLen_any wx.heap.size a' n c' f big k (wx.drewN q) (hb.drewN q) k1 (by omega) h2
    have Z1 := hid z1
    have Z2 := hid z2
    have H6 := hid p6
    have H7 := hid p7
    have b1 : decide (2 * (n : Int) < (T : Int)) = false := by simp; omega
    have b2 : decide ((n : Int) < (K : Int)) = false := by simp; omega
    clear z1 z2 p6 p7 k1 k2 k4 k5 k6 k7 hK hrs hok hT
    go_wp2_with fail
    refine Z1.out.mono ?_
    rintro e wA ⟨t1, p1, rfl, B1, bA⟩
    go_wp2_with fail
    refine (Z2.out t1 p1 wA B1).mono ?_
    rintro e wC ⟨e2, p2, rfl, B2, bC⟩
    have hBc : Byt wC.heap.size wC a' n f := (((hBa.below bA).mono bA.size).below bC).mono bC.size
    have hbC : Below w'.heap.size w' wC := (hba.trans (bA.mono hba.size)).trans (bC.mono (Nat.le_trans hba.size bA.size))
    clear Z1 Z2 bA bC B1 hBa hba
    go_wp2
    go_loopw [10] (fun a wr => ∃ s q : Nat, s ≤ K ∧ a = .int .i64 s ∧ wr = wC.drewN q) (fun a _ => K - (intOf a).toNat)
    case atStart => exact ⟨0, 0, by omega, rfl, rfl⟩
    case round =>
      obtain ⟨s, q, hs, rfl, rfl⟩ := hrel
      by_cases hlt2 : s < K
      · obtain ⟨g, off, rfl, hg, e0, _, _⟩ := B2 s hlt2
        obtain ⟨g', off', rfl, hg', e1, _, _⟩ := hBc s (by omega)
        obtain ⟨z, hz⟩ : ∃ z, z = f s := ⟨_, rfl⟩
        rw [← hz] at e0 e1
        clear hz
        go_wp2
        go_quiet (fail)
        go_wp2
        go_roundw
        case rel => exact ⟨s + 1, q + nq, by omega, by go_num, by simp⟩
        case measure => simp [intOf]; omega
      · cases ok
        · obtain ⟨h1, h2⟩ := H7.out rfl
          have HP := hid (h2 wC hBc q)
          have b3 : ((K : Int) == (n : Int)) = false := by simp; omega
          clear h2 H7 H6
          go_wp2_with fail
          refine HP.out.mono ?_
          rintro e wD ⟨rfl, q2, rfl⟩
          go_wp2
          go_ret
          exact ⟨by simp, below_drewN hbC (q + q2)⟩
        · have h1 := H6.out rfl
          have b3 : ((K : Int) == (n : Int)) = true := by simp; omega
          clear H7 H6
          go_wp2
          go_ret
          exact ⟨by simp, below_drewN hbC q⟩
end Go.Proofs.Qxb6614447a
