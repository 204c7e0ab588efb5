import Derived.Test.Qxb6614447aBase
import Derived.Laws.BitsLemmas
namespace Go.Proofs.Qxb6614447a
open Go.RowKit

theorem wraps_i64 (n : Int) (h₀ : 0 ≤ n) (h₁ : n < 2 ^ 31) : IntKind.i64.wrap n = n := by rw [IntKind.wrap_i64]; omega
theorem i64_or8 (x y : Int) (hx₀ : 0 ≤ x) (hx : x % 256 = 0) (hx₁ : x < 2147483648) (h₀ : 0 ≤ y) (h₁ : y < 256) : bits .or .i64 x y = x + y :=
  bits_join .i64 31 (by decide) wraps_i64 8 x y hx₀ hx hx₁ h₀ h₁ (by omega)
theorem i64_or8' (y x : Int) (h₀ : 0 ≤ y) (h₁ : y < 256) (hx₀ : 0 ≤ x) (hx : x % 256 = 0) (hx₁ : x < 2147483648) : bits .or .i64 y x = y + x :=
  bits_join_low .i64 31 (by decide) wraps_i64 8 y x h₀ h₁ (by omega) hx₀ hx hx₁

/-- zzUnitAt: the unit in bytes 2k, 2k + 1. -/
theorem unitAt_any (B : Nat) (ao : Option Addr) (n c : Nat) (f : Nat → Int) (big : Bool) (k : Nat) (I : Int) (w : World) (hB : Byt B w ao n f) (hI : I = 2 * (k : Int)) (hk : 2 * k + 1 < n) (_hn : n ≤ 4194304) :
    Calls Try.prog 13 #[.slice ao n c, .int .i64 I, .bool big] w fun e w' => e = .returned (.int .i64 (unit big f k)) ∧ ∃ q, w' = w.drewN q := by
  obtain ⟨i, hi⟩ : ∃ i : Nat, i = 2 * k := ⟨_, rfl⟩
  obtain rfl : I = (i : Int) := by omega
  obtain ⟨g, off, rfl, hg, c0, c1, h0, h1, h2, h3⟩ := hB.two hk
  obtain ⟨x, hx⟩ : ∃ x, x = f (2 * k) := ⟨_, rfl⟩
  obtain ⟨y, hy⟩ : ∃ y, y = f (2 * k + 1) := ⟨_, rfl⟩
  have hu : unit big f k = if big then x * 256 + y else x + y * 256 := by rw [hx, hy]; rfl
  rw [hu]
  rw [← hx] at c0 h0 h1
  rw [← hy] at c1 h2 h3
  rw [← hi] at c0 c1 hk
  clear hx hy hu hi hB hI
  cases big
  · have e := i64_or8' x (y * 256) h0 (by omega) (by omega) (by omega) (by omega)
    go_enter Try.func13, Try.ntmps13
    go_wp2
    go_quiet (fail)
    go_wp2
    go_ret
    exact ⟨rfl, nq, rfl⟩
  · have e := i64_or8 (x * 256) y (by omega) (by omega) (by omega) h2 (by omega)
    go_enter Try.func13, Try.ntmps13
    go_wp2
    go_quiet (fail)
    go_wp2
    go_ret
    exact ⟨rfl, nq, rfl⟩

theorem isHigh_any (u : Int) (w : World) : Calls Try.prog 14 #[.int .i64 u] w fun e w' => e = .returned (.bool (hiS u)) ∧ w' = w := by
  by_cases h1 : 55296 ≤ u
  · by_cases h2 : u ≤ 56319
    · have e : hiS u = true := (hi_iff u).2 ⟨h1, h2⟩
      rw [e]
      go_enter Try.func14, Try.ntmps14
      go_wp2
      go_ret
      simp
    · have e : hiS u = false := by simp [hiS]; omega
      rw [e]
      go_enter Try.func14, Try.ntmps14
      go_wp2
      go_ret
      simp
  · have e : hiS u = false := by simp [hiS]; omega
    rw [e]
    go_enter Try.func14, Try.ntmps14
    go_wp2
    go_ret
    simp

theorem isLow_any (u : Int) (w : World) : Calls Try.prog 15 #[.int .i64 u] w fun e w' => e = .returned (.bool (loS u)) ∧ w' = w := by
  by_cases h1 : 56320 ≤ u
  · by_cases h2 : u ≤ 57343
    · have e : loS u = true := (lo_iff u).2 ⟨h1, h2⟩
      rw [e]
      go_enter Try.func15, Try.ntmps15
      go_wp2
      go_ret
      simp
    · have e : loS u = false := by simp [loS]; omega
      rw [e]
      go_enter Try.func15, Try.ntmps15
      go_wp2
      go_ret
      simp
  · have e : loS u = false := by simp [loS]; omega
    rw [e]
    go_enter Try.func15, Try.ntmps15
    go_wp2
    go_ret
    simp

/-- What zzWellPaired answers. -/
def PairedPost (big : Bool) (f : Nat → Int) (n : Nat) (w : World) (e : Ending) (w' : World) : Prop :=
  ∃ r : Bool, e = .returned (.bool r) ∧ (r = true ↔ n % 2 = 0 ∧ ∀ j, j < n / 2 → okAt (unit big f) (n / 2) j) ∧ ∃ q, w' = w.drewN q

theorem paired_no {big : Bool} {f : Nat → Int} {n k : Nat} (hk : k < n / 2) (h : ¬ okAt (unit big f) (n / 2) k) : (false = true ↔ n % 2 = 0 ∧ ∀ j, j < n / 2 → okAt (unit big f) (n / 2) j) :=
  ⟨fun h' => (by cases h'), fun h' => absurd (h'.2 k hk) h⟩

set_option maxHeartbeats 2000000 in
set_option maxRecDepth 100000 in
theorem paired_any (B : Nat) (ao : Option Addr) (n c : Nat) (f : Nat → Int) (big : Bool) (w : World) (hB : Byt B w ao n f) (hn : n ≤ 4194304) :
    Calls Try.prog 10 #[.slice ao n c, .bool big] w fun e w' => PairedPost big f n w e w' := by
  by_cases hev : n % 2 = 0
  case neg =>
    have b0 : ((n : Int) % 2 != 0) = true := by rw [bne_iff_ne]; omega
    go_enter Try.func10, Try.ntmps10
    go_wp2
    go_ret
    exact ⟨false, rfl, ⟨fun h' => (by cases h'), fun h' => absurd h'.1 hev⟩, 0, rfl⟩
  have b0 : ((n : Int) % 2 != 0) = false := by simp; omega
  obtain ⟨m, hm⟩ : ∃ m, m = n / 2 := ⟨_, rfl⟩
  have hm' : (n : Int) / 2 = (m : Int) := by omega
  have hmn : 2 * m ≤ n := by omega
  have HM : Hid (m = n / 2) := hid hm
  have HE : Hid (n % 2 = 0) := hid hev
  clear hm hev
  go_enter Try.func10, Try.ntmps10
  go_wp2
  go_loopw [6] (fun a wr => ∃ k q : Nat, k ≤ m ∧ a = .int .i64 k ∧ (∀ j, j < k → okAt (unit big f) m j) ∧ wr = w.drewN q) (fun a _ => m - (intOf a).toNat)
  case atStart => exact ⟨0, 0, by omega, rfl, fun j hj => by omega, rfl⟩
  case round =>
    obtain ⟨k, q, hk, rfl, hall, rfl⟩ := hrel
    by_cases hlt : k < m
    · have HA := hid hall
      clear hall
      have hkm : k < n / 2 := by have := HM.out; omega
      have cu := unitAt_any B ao n c f big k (2 * (k : Int)) (w.drewN q) hB rfl (by omega) hn
      go_wp2_with fail
      refine cu.mono ?_
      rintro e w1 ⟨rfl, q1, rfl⟩
      clear cu
      go_wp2_with fail
      refine (isHigh_any (unit big f k) _).mono ?_
      rintro e w1 ⟨rfl, rfl⟩
      cases hh : hiS (unit big f k)
      · -- no high one
        go_wp2_with fail
        refine (isLow_any (unit big f k) _).mono ?_
        rintro e w1 ⟨rfl, rfl⟩
        cases hl : loS (unit big f k)
        · have ok : okAt (unit big f) m k := ⟨fun h => (by rw [hh] at h; cases h), fun h => (by rw [hl] at h; cases h)⟩
          have OK := hid ok
          clear ok
          go_wp2
          go_roundw
          case rel => exact ⟨k + 1, q + q1, by omega, by go_num, fun j hj => (by rcases (show j < k ∨ j = k from by omega) with e | rfl; exact HA.out j e; exact OK.out), by simp⟩
          case measure => simp [intOf]; omega
        · by_cases hk0 : k = 0
          · have no : ¬ okAt (unit big f) m k := fun h => (h.2 hl).1 hk0
            have NO := hid no
            have b1 : ((k : Int) == 0) = true := by simp; omega
            clear no hk0
            go_wp2
            go_ret
            exact ⟨false, rfl, paired_no hkm (by rw [← HM.out]; exact NO.out), q + q1, by simp⟩
          · have b1 : ((k : Int) == 0) = false := by simp; omega
            have cv := unitAt_any B ao n c f big (k - 1) (2 * (k : Int) - 2) (w.drewN (q + q1)) hB (by omega) (by omega) hn
            go_wp2_with fail
            refine cv.mono ?_
            rintro e w1 ⟨rfl, q2, rfl⟩
            clear cv
            go_wp2_with fail
            refine (isHigh_any (unit big f (k - 1)) _).mono ?_
            rintro e w1 ⟨rfl, rfl⟩
            cases hp : hiS (unit big f (k - 1))
            · have no : ¬ okAt (unit big f) m k := fun h => (by have := (h.2 hl).2; rw [hp] at this; cases this)
              have NO := hid no
              clear no
              go_wp2
              go_ret
              exact ⟨false, rfl, paired_no hkm (by rw [← HM.out]; exact NO.out), q + q1 + q2, by simp⟩
            · have ok : okAt (unit big f) m k := ⟨fun h => (by rw [hh] at h; cases h), fun _ => ⟨hk0, hp⟩⟩
              have OK := hid ok
              clear ok
              go_wp2
              go_roundw
              case rel => exact ⟨k + 1, q + q1 + q2, by omega, by go_num, fun j hj => (by rcases (show j < k ∨ j = k from by omega) with e | rfl; exact HA.out j e; exact OK.out), by simp⟩
              case measure => simp [intOf]; omega
      · -- a high one
        have hl : loS (unit big f k) = false := hi_lo hh
        by_cases hk1 : k + 1 < m
        · have cv := unitAt_any B ao n c f big (k + 1) (2 * (k : Int) + 2) (w.drewN (q + q1)) hB (by omega) (by omega) hn
          go_wp2_with fail
          refine cv.mono ?_
          rintro e w1 ⟨rfl, q2, rfl⟩
          clear cv
          go_wp2_with fail
          refine (isLow_any (unit big f (k + 1)) _).mono ?_
          rintro e w1 ⟨rfl, rfl⟩
          cases hp : loS (unit big f (k + 1))
          · have no : ¬ okAt (unit big f) m k := fun h => (by have := (h.1 hh).2; rw [hp] at this; cases this)
            have NO := hid no
            clear no
            go_wp2
            go_ret
            exact ⟨false, rfl, paired_no hkm (by rw [← HM.out]; exact NO.out), q + q1 + q2, by simp⟩
          · have ok : okAt (unit big f) m k := ⟨fun _ => ⟨hk1, hp⟩, fun h => (by rw [hl] at h; cases h)⟩
            have OK := hid ok
            clear ok
            go_wp2_with fail
            refine (isLow_any (unit big f k) _).mono ?_
            rintro e w1 ⟨rfl, rfl⟩
            go_wp2
            go_roundw
            case rel => exact ⟨k + 1, q + q1 + q2, by omega, by go_num, fun j hj => (by rcases (show j < k ∨ j = k from by omega) with e | rfl; exact HA.out j e; exact OK.out), by simp⟩
            case measure => simp [intOf]; omega
        · have no : ¬ okAt (unit big f) m k := fun h => hk1 (h.1 hh).1
          have NO := hid no
          clear no
          go_wp2
          go_ret
          exact ⟨false, rfl, paired_no hkm (by rw [← HM.out]; exact NO.out), q + q1, by simp⟩
    · obtain rfl : k = m := by omega
      have HA := hid hall
      clear hall
      go_wp2
      go_ret
      exact ⟨true, rfl, ⟨fun _ => ⟨HE.out, fun j hj => by have := HM.out; rw [← this]; exact HA.out j (by omega)⟩, fun _ => rfl⟩, q, rfl⟩
end Go.Proofs.Qxb6614447a
