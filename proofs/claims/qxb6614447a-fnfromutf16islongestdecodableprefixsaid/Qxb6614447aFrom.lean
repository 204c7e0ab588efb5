/-
  fromUTF16 computes 'dec': the text is the UTF-8 of its characters; the flag its own.
-/
import Derived.Test.Qxb6614447aPaired
import Derived.Test.Qxb6614447aShelf
namespace Go.Proofs.Qxb6614447a
open Go.RowKit
theorem isSur_any (u : Int) (w : World) : Calls Try.prog 16 #[.int .i32 u] w fun e w' => e = .returned (.bool (surS u)) ∧ w' = w := by
  by_cases h1 : 55296 ≤ u
  · by_cases h2 : u < 57344
    · have e : surS u = true := (sur_iff u).2 ⟨h1, by omega⟩
      rw [e]
      go_enter Try.func16, Try.ntmps16
      go_wp2
      go_ret
      simp
    · have e : surS u = false := (sur_false_iff u).2 (by omega)
      rw [e]
      go_enter Try.func16, Try.ntmps16
      go_wp2
      go_ret
      simp
  · have e : surS u = false := (sur_false_iff u).2 (by omega)
    rw [e]
    go_enter Try.func16, Try.ntmps16
    go_wp2
    go_ret
    simp

theorem decode_yes (u v : Int) (w : World) (hu : hiS u = true) (hv : loS v = true) : Calls Try.prog 17 #[.int .i32 u, .int .i32 v] w fun e w' => e = .returned (.int .i32 (pairS u v)) ∧ w' = w := by
  obtain ⟨u0, u1⟩ := (hi_iff u).1 hu
  obtain ⟨v0, v1⟩ := (lo_iff v).1 hv
  have e := bits_join .i32 31 (by decide) wraps_i32 10 ((u - 55296) * 1024) (v - 56320) (by omega) (by omega) (by omega) (by omega) (by omega) (by omega)
  have ep : pairS u v = (u - 55296) * 1024 + (v - 56320) + 65536 := rfl
  rw [ep]
  clear ep hu hv
  go_enter Try.func17, Try.ntmps17
  go_wp2
  go_ret
  exact ⟨rfl, rfl⟩

theorem decode_no (u v : Int) (w : World) (h : (hiS u && loS v) = false) : Calls Try.prog 17 #[.int .i32 u, .int .i32 v] w fun e w' => e = .returned (.int .i32 65533) ∧ w' = w := by
  have h' : ¬ ((55296 ≤ u ∧ u ≤ 56319) ∧ 56320 ≤ v ∧ v ≤ 57343) := by
    intro hh
    rw [(hi_iff u).2 hh.1, (lo_iff v).2 hh.2] at h
    cases h
  clear h
  rcases (show u < 55296 ∨ (55296 ≤ u ∧ 56320 ≤ u) ∨ (55296 ≤ u ∧ u < 56320 ∧ v < 56320) ∨ (55296 ≤ u ∧ u < 56320 ∧ 56320 ≤ v ∧ 57344 ≤ v) from by omega) with h | ⟨h1, h2⟩ | ⟨h1, h2, h3⟩ | ⟨h1, h2, h3, h4⟩
  all_goals
    clear h'
    go_enter Try.func17, Try.ntmps17
    go_wp2
    go_ret
    exact ⟨rfl, rfl⟩
/-- The value of binary.ByteOrder that ZZfromUTF16 hands on. -/
def ordV (big : Bool) : Value := .iface (if big then 29 else 30) (.agg #[])

theorem appendRune_any (B : Nat) (v : Value) (n : Nat) (xs : List Value) (r : Int) (hr0 : -2147483648 ≤ r) (hr1 : r ≤ 2147483647) (w : World) (hown : w.ownsRow B 5 1 v n xs) (hlen : n + 4 ≤ 140737488355328) (hBw : B ≤ w.heap.size) :
    Calls Try.prog 18 #[v, .int .i32 r] w fun e w' => ∃ v', e = .returned v' ∧ w'.ownsRow B 5 1 v' (n + (Lib.runeCells r).length) (xs ++ Lib.runeCells r) ∧ ∃ o, (w.alloc o).grownBy w' v.ownBlock :=
  Any.utf8_AppendRune_plain Try.lays242 info5 B v n xs r hr0 hr1 w hown hlen hBw

theorem u16_any (big : Bool) (g o n c : Nat) (x y : Int) (w : World) (hn : 2 ≤ n) (c0 : w.cell? ⟨g, o, none⟩ = some (.int .u8 x)) (c1 : w.cell? ⟨g, o + 1, none⟩ = some (.int .u8 y)) (h0 : 0 ≤ x) (h1 : x ≤ 255) (h2 : 0 ≤ y) (h3 : y ≤ 255) :
    Calls Try.prog (if big then 37 else 40) #[.agg #[], .slice (some ⟨g, o, none⟩) n c] w fun e w' => e = .returned (.int .u16 (if big then x * 256 + y else x + y * 256)) ∧ Below w.heap.size w w' := by
  obtain ⟨a, rfl⟩ := Int.eq_ofNat_of_zero_le h0
  obtain ⟨b, rfl⟩ := Int.eq_ofNat_of_zero_le h2
  have ea : (UInt8.ofNat a).toNat = a := by simp; omega
  have eb : (UInt8.ofNat b).toNat = b := by simp; omega
  cases big
  · have h := Any.binary_LE_Uint16 Try.lays27 g o n c (UInt8.ofNat a) (UInt8.ofNat b) w hn (by rw [ea]; exact c0) (by rw [eb]; exact c1)
    refine h.mono ?_
    rintro e w' ⟨rfl, hb⟩
    refine ⟨?_, hb⟩
    simp only [Lib.leNat, ea, eb]
    simp
    omega
  · have h := Any.binary_BE_Uint16 Try.lays36 g o n c (UInt8.ofNat a) (UInt8.ofNat b) w hn (by rw [ea]; exact c0) (by rw [eb]; exact c1)
    refine h.mono ?_
    rintro e w' ⟨rfl, hb⟩
    refine ⟨?_, hb⟩
    simp only [Lib.beNat, Lib.beFrom, ea, eb]
    simp

theorem unit_range {big : Bool} {f : Nat → Int} {k : Nat} (x0 : 0 ≤ f (2 * k)) (x1 : f (2 * k) ≤ 255) (y0 : 0 ≤ f (2 * k + 1)) (y1 : f (2 * k + 1) ≤ 255) : 0 ≤ unit big f k ∧ unit big f k ≤ 65535 := by
  unfold unit
  cases big <;> simp <;> omega

theorem nil29 (w : World) : (nilAhead 164 29 (.agg #[]) "Uint16").run Try.prog w = .ok (some false) w := by kernel_rfl
theorem met29 (w : World) : (method 164 29 (.agg #[]) "Uint16").run Try.prog w = .ok (37, .agg #[]) w := by kernel_rfl
theorem nil30 (w : World) : (nilAhead 164 30 (.agg #[]) "Uint16").run Try.prog w = .ok (some false) w := by kernel_rfl
theorem met30 (w : World) : (method 164 30 (.agg #[]) "Uint16").run Try.prog w = .ok (40, .agg #[]) w := by kernel_rfl


/-- The bytes of the text. -/
def textOf (rs : List Int) : List Int := rs.flatMap Lib.encodeRuneZ
theorem textOf_snoc (rs : List Int) (r : Int) : textOf (rs ++ [r]) = textOf rs ++ Lib.encodeRuneZ r := by simp [textOf]
theorem rune_le {r : Int} (h : r ≤ 65535) : (Lib.encodeRuneZ r).length ≤ 3 := by
  unfold Lib.encodeRuneZ
  split
  · simp
  · split
    · simp
    · split
      · simp
      · split
        · omega
        · simp
theorem runeCells_eq (r : Int) : Lib.runeCells r = (Lib.encodeRuneZ r).map (fun x => Value.int .u8 x) := rfl

/-- What fromUTF16 hands back. -/
def FromPost (big : Bool) (f : Nat → Int) (n : Nat) (w : World) (e : Ending) (w' : World) : Prop :=
  ∃ v, e = .returned (.tuple #[v, .bool (dec (units big f n) (decide (n % 2 = 1))).2]) ∧
    w'.ownsRow w.heap.size 5 1 v (textOf (dec (units big f n) (decide (n % 2 = 1))).1).length ((textOf (dec (units big f n) (decide (n % 2 = 1))).1).map (fun x => Value.int .u8 x)) ∧ Below w.heap.size w w'

/-- HOW FAR THE LOOP HAS COME: the characters rs stand in the text; what the rest spells stands behind them. -/
def Far (big : Bool) (f : Nat → Int) (n k : Nat) (rs : List Int) : Prop :=
  dec (units big f n) (decide (n % 2 = 1)) = (rs ++ (dec ((units big f n).drop k) (decide (n % 2 = 1))).1, (dec ((units big f n).drop k) (decide (n % 2 = 1))).2) ∧ (textOf rs).length ≤ 3 * k

theorem Far.start (big : Bool) (f : Nat → Int) (n : Nat) : Far big f n 0 [] := ⟨by simp, by simp [textOf]⟩
theorem units_drop {big : Bool} {f : Nat → Int} {n k : Nat} (hk : 2 * k + 1 < n) : (units big f n).drop k = unit big f k :: (units big f n).drop (k + 1) := drop_units _ _ _ (by omega)
theorem units_end {big : Bool} {f : Nat → Int} {n k : Nat} (hk : n ≤ 2 * k + 1) : (units big f n).drop k = [] := drop_units_end _ _ _ (by omega)

theorem Far.one {big : Bool} {f : Nat → Int} {n k : Nat} {rs : List Int} (h : Far big f n k rs) (hk : 2 * k + 1 < n) (hs : surS (unit big f k) = false) (hu : unit big f k ≤ 65535) : Far big f n (k + 1) (rs ++ [unit big f k]) := by
  obtain ⟨h1, h2⟩ := h
  rw [units_drop hk, dec_one hs] at h1
  refine ⟨by rw [h1]; simp, ?_⟩
  rw [textOf_snoc, List.length_append]
  have := rune_le hu
  omega
theorem Far.two {big : Bool} {f : Nat → Int} {n k : Nat} {rs : List Int} (h : Far big f n k rs) (hk : 2 * k + 3 < n) (hc : hiS (unit big f k) = true) (hd : loS (unit big f (k + 1)) = true) : Far big f n (k + 2) (rs ++ [pairS (unit big f k) (unit big f (k + 1))]) := by
  obtain ⟨h1, h2⟩ := h
  rw [units_drop (by omega), units_drop (k := k + 1) (by omega), dec_two hc hd] at h1
  refine ⟨by rw [h1]; simp, ?_⟩
  rw [textOf_snoc, List.length_append]
  have := (Lib.encodeRuneZ_length (pairS (unit big f k) (unit big f (k + 1)))).2
  omega
/-- The loop stops at a fault. -/
theorem Far.stop {big : Bool} {f : Nat → Int} {n k : Nat} {rs : List Int} (h : Far big f n k rs) (hd : dec ((units big f n).drop k) (decide (n % 2 = 1)) = ([], false)) : dec (units big f n) (decide (n % 2 = 1)) = (rs, false) := by
  rw [h.1, hd]; simp
theorem Far.odd {big : Bool} {f : Nat → Int} {n k : Nat} {rs : List Int} (h : Far big f n k rs) (h1 : 2 * k < n) (h2 : n ≤ 2 * k + 1) : dec (units big f n) (decide (n % 2 = 1)) = (rs, false) := by
  refine h.stop ?_
  rw [units_end h2, dec_nil]
  have : n % 2 = 1 := by omega
  simp [this]
theorem Far.lone {big : Bool} {f : Nat → Int} {n k : Nat} {rs : List Int} (h : Far big f n k rs) (h1 : 2 * k + 1 < n) (h2 : n ≤ 2 * k + 3) (hs : surS (unit big f k) = true) : dec (units big f n) (decide (n % 2 = 1)) = (rs, false) := by
  refine h.stop ?_
  rw [units_drop h1, units_end (k := k + 1) (by omega), dec_lone hs]
theorem Far.bad {big : Bool} {f : Nat → Int} {n k : Nat} {rs : List Int} (h : Far big f n k rs) (h1 : 2 * k + 3 < n) (hs : surS (unit big f k) = true) (hp : (hiS (unit big f k) && loS (unit big f (k + 1))) = false) : dec (units big f n) (decide (n % 2 = 1)) = (rs, false) := by
  refine h.stop ?_
  rw [units_drop (by omega), units_drop (k := k + 1) (by omega), dec_bad hs hp]
theorem Far.done {big : Bool} {f : Nat → Int} {n k : Nat} {rs : List Int} (h : Far big f n k rs) (h1 : n ≤ 2 * k) (h2 : 2 * k ≤ n) : dec (units big f n) (decide (n % 2 = 1)) = (rs, true) := by
  rw [h.1, units_end (by omega), dec_nil]
  have : n % 2 = 0 := by omega
  simp [this]

theorem from_end {big : Bool} {f : Nat → Int} {n : Nat} {rs : List Int} {ok : Bool} {w w' : World} {v : Value} (hd : dec (units big f n) (decide (n % 2 = 1)) = (rs, ok)) (hown : w'.ownsRow w.heap.size 5 1 v (textOf rs).length ((textOf rs).map (fun x => Value.int .u8 x))) (hb : Below w.heap.size w w') :
    FromPost big f n w (.returned (.tuple #[v, .bool ok])) w' := by
  unfold FromPost
  rw [hd]
  exact ⟨v, rfl, hown, hb⟩

/-- A row of the call's own stands as it stood while nothing below the heap's end turns. -/
theorem own_below {w w' : World} {base : Nat} {e : TypeId} {v : Value} {n : Nat} {xs : List Value} (h : w.ownsRow base e 1 v n xs) (hb : Below w.heap.size w w') : w'.ownsRow base e 1 v n xs := by
  refine ⟨h.1, ?_⟩
  rcases h.2 with h2 | ⟨g, cap, cur, h1, h2, h3, h4⟩
  · exact .inl h2
  · exact .inr ⟨g, cap, cur, h1, h2, (hb.block g (Array.getElem?_eq_some_iff.1 h3).1).trans h3, h4⟩

theorem own_snoc {w : World} {B : Nat} {v : Value} {rs : List Int} {r : Int} (h : w.ownsRow B 5 1 v ((textOf rs).length + (Lib.runeCells r).length) ((textOf rs).map (fun x => Value.int .u8 x) ++ Lib.runeCells r)) :
    w.ownsRow B 5 1 v (textOf (rs ++ [r])).length ((textOf (rs ++ [r])).map (fun x => Value.int .u8 x)) := by
  rw [textOf_snoc, List.length_append, List.map_append]
  rw [runeCells_eq, List.length_map] at h
  exact h

set_option maxHeartbeats 2000000 in
set_option maxRecDepth 100000 in
theorem from_big (ao : Option Addr) (n c : Nat) (f : Nat → Int) (w : World) (hB : Byt w.heap.size w ao n f) (hn : n ≤ 4194304) (hc : n ≤ c) :
    Calls Try.prog 11 #[.slice ao n c, .iface 29 (.agg #[])] w fun e w' => FromPost true f n w e w' := by
  obtain ⟨i0, hi, hz0, hz1, hz2⟩ := info_parts info5
  go_enter Try.func11, Try.ntmps11
  go_wp2_with (first
    | (at_make; refine wpList_make_own _ rfl _ _ 22 rfl w.heap.size 5 i0 (.int .u8 0) 1 Try.underlying22 hi hz0 hz1 _ _ _ n rfl rfl (by omega) (by rw [hz2]; omega) (by unfold maxLen; omega) (Nat.le_refl _) ?_; intro w1 hrow1 hg1))
  go_loopw [6, 7] (fun v a wr => ∃ (k : Nat) (rs : List Int), 2 * k ≤ n ∧ a = .int .i64 ((2 * k : Nat) : Int) ∧ Far true f n k rs ∧ wr.ownsRow w.heap.size 5 1 v (textOf rs).length ((textOf rs).map (fun x => Value.int .u8 x)) ∧ Below w.heap.size w wr) (fun _ a _ => n - (intOf a).toNat)
  case atStart => exact ⟨0, [], by omega, rfl, Far.start _ _ _, hrow1, below_make hg1⟩
  case round =>
    clear hrow1 hg1
    obtain ⟨k, rs, hk, rfl, hF, hown, hbel⟩ := hrel
    obtain ⟨i, hi'⟩ : ∃ i, i = 2 * k := ⟨_, rfl⟩
    rw [← hi'] at hk ⊢
    have HI := hid hi'
    have HF := hid hF
    have HO := hid hown
    have htl := hF.2
    have hkn : k ≤ 4194304 := by omega
    clear hi' hF hown
    by_cases h1 : i + 1 < n
    · obtain ⟨g, off, rfl, hg, c0, c1, x0, x1, y0, y1⟩ := (hB.below hbel).two h1
      obtain ⟨u, hu⟩ : ∃ u, u = unit true f k := ⟨_, rfl⟩
      have hub : 0 ≤ u ∧ u ≤ 65535 := by
        rw [hu]
        rw [HI.out] at x0 x1 y0 y1
        exact unit_range x0 x1 y0 y1
      obtain ⟨hu0, hu1⟩ := hub
      have cu : ∀ wx, Below wr.heap.size wr wx → Calls Try.prog 37 #[.agg #[], .slice (some ⟨g, off + i, none⟩) (n - i) (c - i)] wx fun e w' => e = .returned (.int .u16 u) ∧ Below wx.heap.size wx w' := fun wx hb => by
        have h := u16_any true g (off + i) (n - i) (c - i) (f i) (f (i + 1)) wx (by omega) ((hb.cell (p := ⟨g, off + i, none⟩) (Nat.lt_of_lt_of_le hg hbel.size)).trans c0) ((hb.cell (p := ⟨g, off + (i + 1), none⟩) (Nat.lt_of_lt_of_le hg hbel.size)).trans c1) x0 x1 y0 y1
        rw [hu]
        unfold unit
        rw [← HI.out]
        exact h
      have CU := hid cu
      have HU := hid hu
      have hci : ¬ c = i := by omega
      have hna := nil29
      have hme := met29
      clear cu hu c0 c1 x0 x1 y0 y1
      go_wp2
      go_region_with (go_at_call 37; refine (CU.out wr.drew ((Below.refl wr.heap.size wr).drew)).mono ?_; rintro e wU ⟨rfl, hbU⟩)
      have hbU' : Below wr.heap.size wr wU := ((Below.refl wr.heap.size wr).drew).trans hbU
      clear hbU CU hci
      cases hs : surS u
      · -- one unit
        go_wp2_with fail
        refine (isSur_any u _).mono ?_
        rintro e wV ⟨rfl, rfl⟩
        have hown2 : wV.ownsRow w.heap.size 5 1 u6 (textOf rs).length ((textOf rs).map (fun x => Value.int .u8 x)) := own_below HO.out hbU'
        have ca := appendRune_any w.heap.size u6 (textOf rs).length _ u (by omega) (by omega) wV hown2 (by omega) (Nat.le_trans hbel.size hbU'.size)
        have CA := hid ca
        clear ca
        go_wp2_with fail
        refine CA.out.mono ?_
        rintro e wW ⟨v', rfl, hown3, o, hg3⟩
        have hF2 := HF.out.one (by have := HI.out; omega) (by rw [← HU.out]; exact hs) (by rw [← HU.out]; exact hu1)
        have e1 : wW.ownsRow w.heap.size 5 1 v' (textOf (rs ++ [u])).length ((textOf (rs ++ [u])).map (fun x => Value.int .u8 x)) := own_snoc hown3
        have e2 : Below w.heap.size w wW := ((hbel.trans (hbU'.mono hbel.size)).alloc (Nat.le_trans hbel.size hbU'.size) o).grown hg3 (by have := hbel.size; have := hbU'.size; simp; omega) (fun j hj => (hown2.lt j hj).1)
        have E0 : Hid (Far true f n (k + 1) (rs ++ [u])) := by rw [HU.out]; exact hF2
        clear hF2 CA hown3 hg3 hown2
        go_wp2
        go_roundw
        case rel => exact ⟨k + 1, rs ++ [u], by have := HI.out; omega, by have := HI.out; congr 1; omega, E0.out, e1, e2⟩
        case measure => simp [intOf]; omega
      · -- a surrogate
        by_cases h4 : i + 3 < n
        · obtain ⟨g', off', e', hg', d0, d1, p0, p1, q0, q1⟩ := (hB.below (hbel.trans (hbU'.mono hbel.size))).two (k := i + 2) (by omega)
          cases e'
          obtain ⟨v, hv⟩ : ∃ v, v = unit true f (k + 1) := ⟨_, rfl⟩
          have e2 : 2 * (k + 1) = i + 2 := by have := HI.out; omega
          have hvb : 0 ≤ v ∧ v ≤ 65535 := by
            rw [hv]
            exact unit_range (by rw [e2]; exact p0) (by rw [e2]; exact p1) (by rw [e2]; exact q0) (by rw [e2]; exact q1)
          obtain ⟨hv0, hv1⟩ := hvb
          have cu : ∀ wx, Below wU.heap.size wU wx → Calls Try.prog 37 #[.agg #[], .slice (some ⟨g, off + (i + 2), none⟩) (n - (i + 2)) (c - (i + 2))] wx fun e w' => e = .returned (.int .u16 v) ∧ Below wx.heap.size wx w' := fun wx hb => by
            have hgU : g < wU.heap.size := Nat.lt_of_lt_of_le (Nat.lt_of_lt_of_le hg hbel.size) hbU'.size
            have h := u16_any true g (off + (i + 2)) (n - (i + 2)) (c - (i + 2)) (f (i + 2)) (f (i + 2 + 1)) wx (by omega) ((hb.cell (p := ⟨g, off + (i + 2), none⟩) hgU).trans d0) ((hb.cell (p := ⟨g, off + (i + 2 + 1), none⟩) hgU).trans d1) p0 p1 q0 q1
            rw [hv]
            unfold unit
            rw [e2]
            exact h
          have CU := hid cu
          have HV := hid hv
          have hci : ¬ c = i + 2 := by omega
          have hw3 : IntKind.i32.wrap v = v := wraps_i32 _ (by omega) (by omega)
          have hw2 : IntKind.i64.wrap ((i : Int) + 2) = (i : Int) + 2 := wraps_i64 _ (by omega) (by omega)
          clear cu hv d0 d1 p0 p1 q0 q1 e2
          cases hp : (hiS u && loS v)
          · -- no pair
            have hd := HF.out.bad (by have := HI.out; omega) (by rw [← HU.out]; exact hs) (by rw [← HU.out, ← HV.out]; exact hp)
            have HD := hid hd
            have HP := hid hp
            clear hd hp
            go_wp2_with fail
            refine (isSur_any u _).mono ?_
            rintro e wV ⟨rfl, rfl⟩
            rw [hs]
            go_wp2_with fail
            go_region_with (first | (go_at_call 37; refine (CU.out wV.drew ((Below.refl wV.heap.size wV).drew)).mono ?_; rintro e wX ⟨rfl, hbX⟩) | (go_at_call 17; refine (decode_no u v _ HP.out).mono ?_; rintro e wY ⟨rfl, rfl⟩))
            all_goals
              have hbX' : Below wV.heap.size wV wY := ((Below.refl wV.heap.size wV).drew).trans hbX
              go_wp2
              go_ret2
              exact from_end HD.out (own_below (own_below HO.out hbU') hbX') (hbel.trans ((hbU'.trans (hbX'.mono hbU'.size)).mono hbel.size))
          · -- a pair
            obtain ⟨ph, pl⟩ := (Bool.and_eq_true _ _).mp hp
            have hF2 := HF.out.two (by have := HI.out; omega) (by rw [← HU.out]; exact ph) (by rw [← HV.out]; exact pl)
            obtain ⟨p, hpp⟩ : ∃ p, p = pairS u v := ⟨_, rfl⟩
            have hpr := pair_range ph pl
            rw [← hpp] at hpr
            obtain ⟨pr0, pr1⟩ := hpr
            have E0 : Hid (Far true f n (k + 2) (rs ++ [p])) := by rw [hpp, HU.out, HV.out]; exact hF2
            have cd : ∀ wx, Calls Try.prog 17 #[.int .i32 u, .int .i32 v] wx fun e w' => e = .returned (.int .i32 p) ∧ w' = wx := fun wx => by rw [hpp]; exact decode_yes u v wx ph pl
            have CD := hid cd
            have hpne : (p == 65533) = false := beq_eq_false_iff_ne.2 (by omega)
            clear hp ph pl hF2 hpp cd
            go_wp2_with fail
            refine (isSur_any u _).mono ?_
            rintro e wV ⟨rfl, rfl⟩
            rw [hs]
            go_wp2_with fail
            go_region_with (first | (go_at_call 37; refine (CU.out wV.drew ((Below.refl wV.heap.size wV).drew)).mono ?_; rintro e wX ⟨rfl, hbX⟩) | (go_at_call 17; refine (CD.out _).mono ?_; rintro e wY ⟨rfl, rfl⟩))
            all_goals
              have hbX' : Below wV.heap.size wV wY := ((Below.refl wV.heap.size wV).drew).trans hbX
              have hbY : Below wr.heap.size wr wY := hbU'.trans (hbX'.mono hbU'.size)
              have hown2 : wY.ownsRow w.heap.size 5 1 u6 (textOf rs).length ((textOf rs).map (fun x => Value.int .u8 x)) := own_below HO.out hbY
              have ca := appendRune_any w.heap.size u6 (textOf rs).length _ p (by omega) (by omega) wY hown2 (by omega) (Nat.le_trans hbel.size hbY.size)
              have CA := hid ca
              clear ca hbX hbX'
              go_wp2_with fail
              refine CA.out.mono ?_
              rintro e wW ⟨v', rfl, hown3, o, hg3⟩
              have e1 : wW.ownsRow w.heap.size 5 1 v' (textOf (rs ++ [p])).length ((textOf (rs ++ [p])).map (fun x => Value.int .u8 x)) := own_snoc hown3
              have e2 : Below w.heap.size w wW := ((hbel.trans (hbY.mono hbel.size)).alloc (Nat.le_trans hbel.size hbY.size) o).grown hg3 (by have := hbel.size; have := hbY.size; simp; omega) (fun j hj => (hown2.lt j hj).1)
              clear CA hown3 hg3 hown2
              go_wp2
              go_roundw
              case rel => exact ⟨k + 2, rs ++ [p], by have := HI.out; omega, by have := HI.out; congr 1; omega, E0.out, e1, e2⟩
              case measure => simp [intOf]; omega
        · have hd := HF.out.lone (by have := HI.out; omega) (by have := HI.out; omega) (by rw [← HU.out]; exact hs)
          have HD := hid hd
          clear hd
          go_wp2_with fail
          refine (isSur_any u _).mono ?_
          rintro e wV ⟨rfl, rfl⟩
          rw [hs]
          go_wp2
          go_ret2
          exact from_end HD.out (own_below HO.out hbU') (hbel.trans (hbU'.mono hbel.size))
    · by_cases h2 : i < n
      · have hd := HF.out.odd (by have := HI.out; omega) (by have := HI.out; omega)
        have HD := hid hd
        clear hd
        go_wp2
        go_ret2
        exact from_end HD.out HO.out hbel
      · have hd := HF.out.done (by have := HI.out; omega) (by have := HI.out; omega)
        have HD := hid hd
        clear hd
        go_wp2
        go_ret2
        exact from_end HD.out HO.out hbel

set_option maxHeartbeats 2000000 in
set_option maxRecDepth 100000 in
theorem from_little (ao : Option Addr) (n c : Nat) (f : Nat → Int) (w : World) (hB : Byt w.heap.size w ao n f) (hn : n ≤ 4194304) (hc : n ≤ c) :
    Calls Try.prog 11 #[.slice ao n c, .iface 30 (.agg #[])] w fun e w' => FromPost false f n w e w' := by
  obtain ⟨i0, hi, hz0, hz1, hz2⟩ := info_parts info5
  go_enter Try.func11, Try.ntmps11
  go_wp2_with (first
    | (at_make; refine wpList_make_own _ rfl _ _ 22 rfl w.heap.size 5 i0 (.int .u8 0) 1 Try.underlying22 hi hz0 hz1 _ _ _ n rfl rfl (by omega) (by rw [hz2]; omega) (by unfold maxLen; omega) (Nat.le_refl _) ?_; intro w1 hrow1 hg1))
  go_loopw [6, 7] (fun v a wr => ∃ (k : Nat) (rs : List Int), 2 * k ≤ n ∧ a = .int .i64 ((2 * k : Nat) : Int) ∧ Far false f n k rs ∧ wr.ownsRow w.heap.size 5 1 v (textOf rs).length ((textOf rs).map (fun x => Value.int .u8 x)) ∧ Below w.heap.size w wr) (fun _ a _ => n - (intOf a).toNat)
  case atStart => exact ⟨0, [], by omega, rfl, Far.start _ _ _, hrow1, below_make hg1⟩
  case round =>
    clear hrow1 hg1
    obtain ⟨k, rs, hk, rfl, hF, hown, hbel⟩ := hrel
    obtain ⟨i, hi'⟩ : ∃ i, i = 2 * k := ⟨_, rfl⟩
    rw [← hi'] at hk ⊢
    have HI := hid hi'
    have HF := hid hF
    have HO := hid hown
    have htl := hF.2
    have hkn : k ≤ 4194304 := by omega
    clear hi' hF hown
    by_cases h1 : i + 1 < n
    · obtain ⟨g, off, rfl, hg, c0, c1, x0, x1, y0, y1⟩ := (hB.below hbel).two h1
      obtain ⟨u, hu⟩ : ∃ u, u = unit false f k := ⟨_, rfl⟩
      have hub : 0 ≤ u ∧ u ≤ 65535 := by
        rw [hu]
        rw [HI.out] at x0 x1 y0 y1
        exact unit_range x0 x1 y0 y1
      obtain ⟨hu0, hu1⟩ := hub
      have cu : ∀ wx, Below wr.heap.size wr wx → Calls Try.prog 40 #[.agg #[], .slice (some ⟨g, off + i, none⟩) (n - i) (c - i)] wx fun e w' => e = .returned (.int .u16 u) ∧ Below wx.heap.size wx w' := fun wx hb => by
        have h := u16_any false g (off + i) (n - i) (c - i) (f i) (f (i + 1)) wx (by omega) ((hb.cell (p := ⟨g, off + i, none⟩) (Nat.lt_of_lt_of_le hg hbel.size)).trans c0) ((hb.cell (p := ⟨g, off + (i + 1), none⟩) (Nat.lt_of_lt_of_le hg hbel.size)).trans c1) x0 x1 y0 y1
        rw [hu]
        unfold unit
        rw [← HI.out]
        exact h
      have CU := hid cu
      have HU := hid hu
      have hci : ¬ c = i := by omega
      have hna := nil30
      have hme := met30
      clear cu hu c0 c1 x0 x1 y0 y1
      go_wp2
      go_region_with (go_at_call 40; refine (CU.out wr.drew ((Below.refl wr.heap.size wr).drew)).mono ?_; rintro e wU ⟨rfl, hbU⟩)
      have hbU' : Below wr.heap.size wr wU := ((Below.refl wr.heap.size wr).drew).trans hbU
      clear hbU CU hci
      cases hs : surS u
      · -- one unit
        go_wp2_with fail
        refine (isSur_any u _).mono ?_
        rintro e wV ⟨rfl, rfl⟩
        have hown2 : wV.ownsRow w.heap.size 5 1 u6 (textOf rs).length ((textOf rs).map (fun x => Value.int .u8 x)) := own_below HO.out hbU'
        have ca := appendRune_any w.heap.size u6 (textOf rs).length _ u (by omega) (by omega) wV hown2 (by omega) (Nat.le_trans hbel.size hbU'.size)
        have CA := hid ca
        clear ca
        go_wp2_with fail
        refine CA.out.mono ?_
        rintro e wW ⟨v', rfl, hown3, o, hg3⟩
        have hF2 := HF.out.one (by have := HI.out; omega) (by rw [← HU.out]; exact hs) (by rw [← HU.out]; exact hu1)
        have e1 : wW.ownsRow w.heap.size 5 1 v' (textOf (rs ++ [u])).length ((textOf (rs ++ [u])).map (fun x => Value.int .u8 x)) := own_snoc hown3
        have e2 : Below w.heap.size w wW := ((hbel.trans (hbU'.mono hbel.size)).alloc (Nat.le_trans hbel.size hbU'.size) o).grown hg3 (by have := hbel.size; have := hbU'.size; simp; omega) (fun j hj => (hown2.lt j hj).1)
        have E0 : Hid (Far false f n (k + 1) (rs ++ [u])) := by rw [HU.out]; exact hF2
        clear hF2 CA hown3 hg3 hown2
        go_wp2
        go_roundw
        case rel => exact ⟨k + 1, rs ++ [u], by have := HI.out; omega, by have := HI.out; congr 1; omega, E0.out, e1, e2⟩
        case measure => simp [intOf]; omega
      · -- a surrogate
        by_cases h4 : i + 3 < n
        · obtain ⟨g', off', e', hg', d0, d1, p0, p1, q0, q1⟩ := (hB.below (hbel.trans (hbU'.mono hbel.size))).two (k := i + 2) (by omega)
          cases e'
          obtain ⟨v, hv⟩ : ∃ v, v = unit false f (k + 1) := ⟨_, rfl⟩
          have e2 : 2 * (k + 1) = i + 2 := by have := HI.out; omega
          have hvb : 0 ≤ v ∧ v ≤ 65535 := by
            rw [hv]
            exact unit_range (by rw [e2]; exact p0) (by rw [e2]; exact p1) (by rw [e2]; exact q0) (by rw [e2]; exact q1)
          obtain ⟨hv0, hv1⟩ := hvb
          have cu : ∀ wx, Below wU.heap.size wU wx → Calls Try.prog 40 #[.agg #[], .slice (some ⟨g, off + (i + 2), none⟩) (n - (i + 2)) (c - (i + 2))] wx fun e w' => e = .returned (.int .u16 v) ∧ Below wx.heap.size wx w' := fun wx hb => by
            have hgU : g < wU.heap.size := Nat.lt_of_lt_of_le (Nat.lt_of_lt_of_le hg hbel.size) hbU'.size
            have h := u16_any false g (off + (i + 2)) (n - (i + 2)) (c - (i + 2)) (f (i + 2)) (f (i + 2 + 1)) wx (by omega) ((hb.cell (p := ⟨g, off + (i + 2), none⟩) hgU).trans d0) ((hb.cell (p := ⟨g, off + (i + 2 + 1), none⟩) hgU).trans d1) p0 p1 q0 q1
            rw [hv]
            unfold unit
            rw [e2]
            exact h
          have CU := hid cu
          have HV := hid hv
          have hci : ¬ c = i + 2 := by omega
          have hw3 : IntKind.i32.wrap v = v := wraps_i32 _ (by omega) (by omega)
          have hw2 : IntKind.i64.wrap ((i : Int) + 2) = (i : Int) + 2 := wraps_i64 _ (by omega) (by omega)
          clear cu hv d0 d1 p0 p1 q0 q1 e2
          cases hp : (hiS u && loS v)
          · -- no pair
            have hd := HF.out.bad (by have := HI.out; omega) (by rw [← HU.out]; exact hs) (by rw [← HU.out, ← HV.out]; exact hp)
            have HD := hid hd
            have HP := hid hp
            clear hd hp
            go_wp2_with fail
            refine (isSur_any u _).mono ?_
            rintro e wV ⟨rfl, rfl⟩
            rw [hs]
            go_wp2_with fail
            go_region_with (first | (go_at_call 40; refine (CU.out wV.drew ((Below.refl wV.heap.size wV).drew)).mono ?_; rintro e wX ⟨rfl, hbX⟩) | (go_at_call 17; refine (decode_no u v _ HP.out).mono ?_; rintro e wY ⟨rfl, rfl⟩))
            all_goals
              have hbX' : Below wV.heap.size wV wY := ((Below.refl wV.heap.size wV).drew).trans hbX
              go_wp2
              go_ret2
              exact from_end HD.out (own_below (own_below HO.out hbU') hbX') (hbel.trans ((hbU'.trans (hbX'.mono hbU'.size)).mono hbel.size))
          · -- a pair
            obtain ⟨ph, pl⟩ := (Bool.and_eq_true _ _).mp hp
            have hF2 := HF.out.two (by have := HI.out; omega) (by rw [← HU.out]; exact ph) (by rw [← HV.out]; exact pl)
            obtain ⟨p, hpp⟩ : ∃ p, p = pairS u v := ⟨_, rfl⟩
            have hpr := pair_range ph pl
            rw [← hpp] at hpr
            obtain ⟨pr0, pr1⟩ := hpr
            have E0 : Hid (Far false f n (k + 2) (rs ++ [p])) := by rw [hpp, HU.out, HV.out]; exact hF2
            have cd : ∀ wx, Calls Try.prog 17 #[.int .i32 u, .int .i32 v] wx fun e w' => e = .returned (.int .i32 p) ∧ w' = wx := fun wx => by rw [hpp]; exact decode_yes u v wx ph pl
            have CD := hid cd
            have hpne : (p == 65533) = false := beq_eq_false_iff_ne.2 (by omega)
            clear hp ph pl hF2 hpp cd
            go_wp2_with fail
            refine (isSur_any u _).mono ?_
            rintro e wV ⟨rfl, rfl⟩
            rw [hs]
            go_wp2_with fail
            go_region_with (first | (go_at_call 40; refine (CU.out wV.drew ((Below.refl wV.heap.size wV).drew)).mono ?_; rintro e wX ⟨rfl, hbX⟩) | (go_at_call 17; refine (CD.out _).mono ?_; rintro e wY ⟨rfl, rfl⟩))
            all_goals
              have hbX' : Below wV.heap.size wV wY := ((Below.refl wV.heap.size wV).drew).trans hbX
              have hbY : Below wr.heap.size wr wY := hbU'.trans (hbX'.mono hbU'.size)
              have hown2 : wY.ownsRow w.heap.size 5 1 u6 (textOf rs).length ((textOf rs).map (fun x => Value.int .u8 x)) := own_below HO.out hbY
              have ca := appendRune_any w.heap.size u6 (textOf rs).length _ p (by omega) (by omega) wY hown2 (by omega) (Nat.le_trans hbel.size hbY.size)
              have CA := hid ca
              clear ca hbX hbX'
              go_wp2_with fail
              refine CA.out.mono ?_
              rintro e wW ⟨v', rfl, hown3, o, hg3⟩
              have e1 : wW.ownsRow w.heap.size 5 1 v' (textOf (rs ++ [p])).length ((textOf (rs ++ [p])).map (fun x => Value.int .u8 x)) := own_snoc hown3
              have e2 : Below w.heap.size w wW := ((hbel.trans (hbY.mono hbel.size)).alloc (Nat.le_trans hbel.size hbY.size) o).grown hg3 (by have := hbel.size; have := hbY.size; simp; omega) (fun j hj => (hown2.lt j hj).1)
              clear CA hown3 hg3 hown2
              go_wp2
              go_roundw
              case rel => exact ⟨k + 2, rs ++ [p], by have := HI.out; omega, by have := HI.out; congr 1; omega, E0.out, e1, e2⟩
              case measure => simp [intOf]; omega
        · have hd := HF.out.lone (by have := HI.out; omega) (by have := HI.out; omega) (by rw [← HU.out]; exact hs)
          have HD := hid hd
          clear hd
          go_wp2_with fail
          refine (isSur_any u _).mono ?_
          rintro e wV ⟨rfl, rfl⟩
          rw [hs]
          go_wp2
          go_ret2
          exact from_end HD.out (own_below HO.out hbU') (hbel.trans (hbU'.mono hbel.size))
    · by_cases h2 : i < n
      · have hd := HF.out.odd (by have := HI.out; omega) (by have := HI.out; omega)
        have HD := hid hd
        clear hd
        go_wp2
        go_ret2
        exact from_end HD.out HO.out hbel
      · have hd := HF.out.done (by have := HI.out; omega) (by have := HI.out; omega)
        have HD := hid hd
        clear hd
        go_wp2
        go_ret2
        exact from_end HD.out HO.out hbel
end Go.Proofs.Qxb6614447a
