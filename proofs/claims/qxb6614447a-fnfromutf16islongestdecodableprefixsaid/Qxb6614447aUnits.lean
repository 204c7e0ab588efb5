/-
  For the law of the longest prefix: how the bytes of one character's UTF-8 grow its number (Run); zzPutUnit; zzCodeLenAt.
-/
import Derived.Test.Qxb6614447aShare
namespace Go.Proofs.Qxb6614447a
open Go.RowKit

theorem i64_and192 (d : Int) (h0 : 128 ≤ d) (h1 : d < 192) : bits .and .i64 d 192 = 128 := by
  obtain ⟨a, rfl⟩ := Int.eq_ofNat_of_zero_le (show 0 ≤ d by omega)
  have h := (bits_nat .i64 31 (by decide) wraps_i64 a 192 (by omega) (by decide)).1
  have e : a &&& 192 = 128 := by
    have : ∀ x : Fin 64, (128 + x.val) &&& 192 = 128 := by decide
    have h2 := this ⟨a - 128, by omega⟩
    have h3 : 128 + (a - 128) = a := by omega
    simpa [h3] using h2
  rw [e] at h
  exact h
theorem i64_mask (i : Nat) (hi : i ≤ 31) (d : Int) (h0 : 0 ≤ d) (h1 : d < 2147483648) : bits .and .i64 d (2 ^ i - 1) = d % 2 ^ i := bits_mask .i64 31 (by decide) wraps_i64 i hi d h0 h1
theorem i64_or6 (x y : Int) (hx₀ : 0 ≤ x) (hx₁ : x < 16777216) (h₀ : 0 ≤ y) (h₁ : y < 64) : bits .or .i64 (x * 64) y = x * 64 + y :=
  bits_join .i64 31 (by decide) wraps_i64 6 (x * 64) y (by omega) (by omega) (by omega) h₀ h₁ (by omega)

/-- One character's bytes b 0, b 1, ..: how many, and how its number grows byte by byte. -/
structure Run (b : Nat → Int) (r : Int) (m : Nat) (R : Nat → Int) : Prop where
  m1 : 1 ≤ m
  m4 : m ≤ 4
  one : m = 1 → 0 ≤ b 0 ∧ b 0 < 128 ∧ R 1 = b 0
  two : m = 2 → 194 ≤ b 0 ∧ b 0 ≤ 223 ∧ R 1 = b 0 % 32
  three : m = 3 → 224 ≤ b 0 ∧ b 0 ≤ 239 ∧ R 1 = b 0 % 16
  four : m = 4 → 240 ≤ b 0 ∧ b 0 ≤ 244 ∧ R 1 = b 0 % 8
  step : ∀ j, 1 ≤ j → j < m → 128 ≤ b j ∧ b j < 192 ∧ R (j + 1) = R j * 64 + b j % 64 ∧ 0 ≤ R j ∧ R j ≤ 17408
  last : R m = r
  r3 : m = 3 → 2048 ≤ r
  r4 : m = 4 ↔ 65536 ≤ r
  r0 : 0 ≤ r
  r5 : r ≤ 1114111
  sur : r < 55296 ∨ 57343 < r
  r2 : m ≤ 2 → r < 55296

theorem run_of {b : Nat → Int} {r : Int} (hr : charS r) (hb : ∀ j, j < (Lib.encodeRuneZ r).length → b j = (Lib.encodeRuneZ r).getD j 0) : ∃ R, Run b r (Lib.encodeRuneZ r).length R := by
  obtain ⟨h0, h1, h2⟩ := hr
  have hs := (sur_false_iff r).1 h2
  by_cases c1 : r ≤ 127
  · rw [Lib.encodeRuneZ_one h0 c1] at hb ⊢
    have b0 := hb 0 (by simp)
    simp at b0
    refine ⟨fun _ => r, ⟨by simp, by simp, fun _ => by omega, fun h => by simp at h, fun h => by simp at h, fun h => by simp at h, fun j hj hj' => ?_, rfl, fun h => by simp at h, ?_, h0, h1, hs, fun _ => by omega⟩⟩
    · simp at hj'; omega
    · simp; omega
  by_cases c2 : r ≤ 2047
  · rw [Lib.encodeRuneZ_two (by omega) c2] at hb ⊢
    have b0 := hb 0 (by simp)
    have b1 := hb 1 (by simp)
    simp at b0 b1
    refine ⟨fun j => if j = 1 then r / 64 else r, ⟨by simp, by simp, fun h => by simp at h, fun _ => ?_, fun h => by simp at h, fun h => by simp at h, fun j hj hj' => ?_, by simp, fun h => by simp at h, ?_, h0, h1, hs, fun _ => by omega⟩⟩
    · simp; omega
    · simp at hj'
      obtain rfl : j = 1 := by omega
      simp; omega
    · simp; omega
  by_cases c3 : r ≤ 65535
  · rw [Lib.encodeRuneZ_three (by omega)] at hb ⊢
    have b0 := hb 0 (by simp)
    have b1 := hb 1 (by simp)
    have b2 := hb 2 (by simp)
    simp at b0 b1 b2
    refine ⟨fun j => if j = 1 then r / 4096 else if j = 2 then r / 64 else r, ⟨by simp, by simp, fun h => by simp at h, fun h => by simp at h, fun _ => ?_, fun h => by simp at h, fun j hj hj' => ?_, by simp, fun _ => by omega, ?_, h0, h1, hs, fun h => by simp at h⟩⟩
    · simp; omega
    · simp at hj'
      rcases (show j = 1 ∨ j = 2 by omega) with rfl | rfl
      · simp; omega
      · simp; omega
    · simp; omega
  · rw [Lib.encodeRuneZ_four (by omega) h1] at hb ⊢
    have b0 := hb 0 (by simp)
    have b1 := hb 1 (by simp)
    have b2 := hb 2 (by simp)
    have b3 := hb 3 (by simp)
    simp at b0 b1 b2 b3
    refine ⟨fun j => if j = 1 then r / 262144 else if j = 2 then r / 4096 else if j = 3 then r / 64 else r, ⟨by simp, by simp, fun h => by simp at h, fun h => by simp at h, fun h => by simp at h, fun _ => ?_, fun j hj hj' => ?_, by simp, fun h => by simp at h, ?_, h0, h1, hs, fun h => by simp at h⟩⟩
    · simp; omega
    · simp at hj'
      rcases (show j = 1 ∨ j = 2 ∨ j = 3 by omega) with rfl | rfl | rfl
      · simp; omega
      · simp; omega
      · simp; omega
    · simp; omega
def putS (big : Bool) (u : Int) : List Int := if big then [u / 256, u % 256] else [u % 256, u / 256]
def cellS (L : List Int) : List Value := L.map (fun x => Value.int .u8 x)
theorem cellS_append (L M : List Int) : cellS (L ++ M) = cellS L ++ cellS M := by simp [cellS]

/-- The bytes of the units of the characters rs. -/
def outB (big : Bool) (rs : List Int) : List Int := (rs.flatMap encS).flatMap (putS big)
theorem outB_snoc (big : Bool) (rs : List Int) (r : Int) : outB big (rs ++ [r]) = outB big rs ++ (encS r).flatMap (putS big) := by simp [outB]
theorem putS_len (big : Bool) (u : Int) : (putS big u).length = 2 := by cases big <;> rfl
theorem put_flat_len (big : Bool) : ∀ us : List Int, (us.flatMap (putS big)).length = 2 * us.length
  | [] => rfl
  | u :: us => by simp [putS_len, put_flat_len big us]; omega
theorem enc_flat_len : ∀ rs : List Int, (rs.flatMap encS).length ≤ 2 * rs.length
  | [] => by simp
  | r :: rs => by
    have := enc_flat_len rs
    have h : (encS r).length ≤ 2 := by unfold encS; split <;> simp
    rw [List.flatMap_cons, List.length_append, List.length_cons]
    omega
theorem outB_len (big : Bool) (rs : List Int) : (outB big rs).length ≤ 4 * rs.length := by
  have := enc_flat_len rs
  unfold outB
  rw [put_flat_len]
  omega
theorem text_cons (r : Int) (rs : List Int) : textOf (r :: rs) = Lib.encodeRuneZ r ++ textOf rs := by simp [textOf]
theorem text_append (rs ss : List Int) : textOf (rs ++ ss) = textOf rs ++ textOf ss := by simp [textOf]
theorem getD_mid (A B C : List Int) (j : Nat) (hj : j < B.length) : (A ++ (B ++ C)).getD (A.length + j) 0 = B.getD j 0 := by
  rw [List.getD_eq_getElem?_getD, List.getD_eq_getElem?_getD, List.getElem?_append_right (by omega), Nat.add_sub_cancel_left, List.getElem?_append_left hj]
theorem put_any (B : Nat) (v : Value) (n : Nat) (L : List Int) (u : Int) (big : Bool) (hu0 : 0 ≤ u) (hu1 : u ≤ 65535) (w : World) (hown : w.ownsRow B 5 1 v n (cellS L)) (hlen : n ≤ 1000000000) (hBw : B ≤ w.heap.size) :
    Calls Try.prog 12 #[v, .int .i64 u, .bool big] w fun e w' => ∃ v', e = .returned v' ∧ w'.ownsRow B 5 1 v' (n + 2) (cellS (L ++ putS big u)) ∧ ∃ o, (w.alloc o).grownBy w' v.ownBlock := by
  obtain ⟨i0, hi, hz0, hz1, hz2⟩ := info_parts info5
  have e1 : bits .and .i64 u 255 = u % 256 := bits_mask .i64 31 (by decide) wraps_i64 8 (by decide) u hu0 (by omega)
  have e2 : IntKind.u8.wrap (u / 256) = u / 256 := wraps_u8 _ (by omega) (by omega)
  have e3 : IntKind.u8.wrap (u % 256) = u % 256 := wraps_u8 _ (by omega) (by omega)
  rw [cellS_append]
  cases big
  · go_enter Try.func12, Try.ntmps12
    go_wp2_with (at_builtin; refine wpList_append_own _ rfl _ _ 22 rfl B 5 i0 (.int .u8 0) 1 1 Try.underlying22 hi hz0 hz1 hz2 rfl (by decide) _ _ _ rfl (hown.alloc _) ⟨w.heap.size, 0, none⟩ 2 2 [.int .u8 (u % 256), .int .u8 (u / 256)] rfl rfl ?c1 ?c2 ?c3 ?c4 ?c5 ?_)
    case c1 =>
      intro j u hj
      match j, hj with
      | 0, hj => simp at hj; subst hj; simp [Addr.add]
      | 1, hj => simp at hj; subst hj; simp [Addr.add]
      | (j + 2), hj => simp at hj
    case c2 => intro u hu; simp at hu; rcases hu with rfl | rfl <;> rfl
    case c3 => unfold maxLen; omega
    case c4 => omega
    case c5 => simp; omega
    intro v' w2 hown' hgrow _
    go_wp2
    go_ret
    exact ⟨_, rfl, hown', _, hgrow⟩
  · go_enter Try.func12, Try.ntmps12
    go_wp2_with (at_builtin; refine wpList_append_own _ rfl _ _ 22 rfl B 5 i0 (.int .u8 0) 1 1 Try.underlying22 hi hz0 hz1 hz2 rfl (by decide) _ _ _ rfl (hown.alloc _) ⟨w.heap.size, 0, none⟩ 2 2 [.int .u8 (u / 256), .int .u8 (u % 256)] rfl rfl ?c1 ?c2 ?c3 ?c4 ?c5 ?_)
    case c1 =>
      intro j u hj
      match j, hj with
      | 0, hj => simp at hj; subst hj; simp [Addr.add]
      | 1, hj => simp at hj; subst hj; simp [Addr.add]
      | (j + 2), hj => simp at hj
    case c2 => intro u hu; simp at hu; rcases hu with rfl | rfl <;> rfl
    case c3 => unfold maxLen; omega
    case c4 => omega
    case c5 => simp; omega
    intro v' w2 hown' hgrow _
    go_wp2
    go_ret
    exact ⟨_, rfl, hown', _, hgrow⟩

set_option maxHeartbeats 600000 in
set_option maxRecDepth 100000 in
/-- zzCodeLenAt answers 0 where the reading is stuck. -/
theorem codeLen_any (B : Nat) (ao : Option Addr) (n c : Nat) (f : Nat → Int) (big : Bool) (k : Nat) (w : World) (hB : Byt B w ao n f) (hk : 2 * k ≤ n) (hn : n ≤ 4194304) (hst : Stuck ((units big f n).drop k) (decide (n % 2 = 1))) :
    Calls Try.prog 8 #[.slice ao n c, .int .i64 ((2 * k : Nat) : Int), .bool big] w fun e w' => e = .returned (.int .i64 0) ∧ ∃ q, w' = w.drewN q := by
  obtain ⟨i, hi⟩ : ∃ i, i = 2 * k := ⟨_, rfl⟩
  rw [← hi]
  by_cases h1 : i + 1 < n
  · have hs : surS (unit big f k) = true ∧ (i + 3 < n → (hiS (unit big f k) && loS (unit big f (k + 1))) = false) := by
      have e0 : (units big f n).drop k = unit big f k :: (units big f n).drop (k + 1) := drop_units _ _ _ (by omega)
      rw [e0] at hst
      rcases hst with ⟨h, _⟩ | ⟨c, h, hc⟩ | ⟨c, d, rest, h, hc, hp⟩
      · cases h
      · injection h with h2 h3
        subst h2
        refine ⟨hc, fun h4 => ?_⟩
        have e1 : (units big f n).drop (k + 1) = unit big f (k + 1) :: (units big f n).drop (k + 1 + 1) := drop_units _ _ _ (by omega)
        rw [e1] at h3
        cases h3
      · injection h with h2 h3
        subst h2
        refine ⟨hc, fun h4 => ?_⟩
        have e1 : (units big f n).drop (k + 1) = unit big f (k + 1) :: (units big f n).drop (k + 1 + 1) := drop_units _ _ _ (by omega)
        rw [e1] at h3
        injection h3 with h5 h6
        rw [h5]
        exact hp
    obtain ⟨hs1, hs2⟩ := hs
    have HS := hid hs2
    rw [surS_iff] at hs1
    have cu := unitAt_any B ao n c f big k (i : Int) w hB (by omega) (by omega) hn
    have CU := hid cu
    have HI := hid hi
    clear cu hs2 hst hi hk
    cases hh : hiS (unit big f k)
    · have hl : loS (unit big f k) = true := by rw [hh] at hs1; simpa using hs1
      go_enter Try.func8, Try.ntmps8
      go_wp2_with fail
      refine CU.out.mono ?_
      rintro e w1 ⟨rfl, q1, rfl⟩
      clear CU
      go_wp2_with fail
      refine (isHigh_any (unit big f k) _).mono ?_
      rintro e w1 ⟨rfl, rfl⟩
      rw [hh]
      go_wp2_with fail
      refine (isLow_any (unit big f k) _).mono ?_
      rintro e w1 ⟨rfl, rfl⟩
      rw [hl]
      go_wp2_with fail
      refine (isHigh_any (unit big f k) _).mono ?_
      rintro e w1 ⟨rfl, rfl⟩
      rw [hh]
      go_wp2
      go_ret
      exact ⟨rfl, _, rfl⟩
    · by_cases h4 : i + 3 < n
      · have hl : loS (unit big f (k + 1)) = false := by have := HS.out h4; rw [hh] at this; simpa using this
        have cv : ∀ q, Calls Try.prog 13 #[.slice ao n c, .int .i64 ((i : Int) + 2), .bool big] (w.drewN q) fun e w' => e = .returned (.int .i64 (unit big f (k + 1))) ∧ ∃ q', w' = (w.drewN q).drewN q' := fun q => unitAt_any B ao n c f big (k + 1) ((i : Int) + 2) (w.drewN q) (hB.drewN q) (by have := HI.out; omega) (by have := HI.out; omega) hn
        have CV := hid cv
        clear cv
        go_enter Try.func8, Try.ntmps8
        go_wp2_with fail
        refine CU.out.mono ?_
        rintro e w1 ⟨rfl, q1, rfl⟩
        clear CU
        go_wp2_with fail
        refine (isHigh_any (unit big f k) _).mono ?_
        rintro e w1 ⟨rfl, rfl⟩
        rw [hh]
        go_wp2_with fail
        refine (isHigh_any (unit big f k) _).mono ?_
        rintro e w1 ⟨rfl, rfl⟩
        rw [hh]
        go_wp2_with fail
        refine (CV.out q1).mono ?_
        rintro e w1 ⟨rfl, q2, rfl⟩
        go_wp2_with fail
        refine (isLow_any (unit big f (k + 1)) _).mono ?_
        rintro e w1 ⟨rfl, rfl⟩
        rw [hl]
        go_wp2
        go_ret
        exact ⟨rfl, q1 + q2, by simp⟩
      · go_enter Try.func8, Try.ntmps8
        go_wp2_with fail
        refine CU.out.mono ?_
        rintro e w1 ⟨rfl, q1, rfl⟩
        clear CU
        go_wp2_with fail
        refine (isHigh_any (unit big f k) _).mono ?_
        rintro e w1 ⟨rfl, rfl⟩
        rw [hh]
        go_wp2_with fail
        refine (isHigh_any (unit big f k) _).mono ?_
        rintro e w1 ⟨rfl, rfl⟩
        rw [hh]
        go_wp2
        go_ret
        exact ⟨rfl, _, rfl⟩
  · have hin : i ≤ n := by omega
    clear hi hk hst
    go_enter Try.func8, Try.ntmps8
    go_wp2
    go_ret
    exact ⟨rfl, 0, rfl⟩
end Go.Proofs.Qxb6614447a
