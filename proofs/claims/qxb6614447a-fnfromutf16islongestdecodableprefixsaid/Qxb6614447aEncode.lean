/-
  zzEncodeUTF16 of the UTF-8 of characters: their units, byte by byte, in the given order; and no fault.
-/
import Derived.Test.Qxb6614447aUnits
namespace Go.Proofs.Qxb6614447a
open Go.RowKit

/-- How far the encoding has come. -/
def Enc (big : Bool) (rs : List Int) (i : Nat) (L : List Int) (rs2 : List Int) : Prop :=
  ∃ rs1, rs = rs1 ++ rs2 ∧ i = (textOf rs1).length ∧ L = outB big rs1

theorem Enc.next {big : Bool} {rs : List Int} {i : Nat} {L : List Int} {r : Int} {rest : List Int} (h : Enc big rs i L (r :: rest)) : Enc big rs (i + (Lib.encodeRuneZ r).length) (L ++ (encS r).flatMap (putS big)) rest := by
  obtain ⟨rs1, h1, h2, h3⟩ := h
  exact ⟨rs1 ++ [r], by simp [h1], by rw [textOf_snoc, List.length_append, h2], by rw [outB_snoc, h3]⟩
theorem Enc.len {big : Bool} {rs : List Int} {i : Nat} {L rs2 : List Int} (h : Enc big rs i L rs2) (hl : rs.length ≤ 4194304) : L.length ≤ 16777216 := by
  obtain ⟨rs1, h1, h2, h3⟩ := h
  rw [h3]
  have := outB_len big rs1
  rw [h1, List.length_append] at hl
  omega
theorem Enc.stop {big : Bool} {rs : List Int} {i : Nat} {L : List Int} (h : Enc big rs i L []) : i = (textOf rs).length ∧ L = outB big rs := by
  obtain ⟨rs1, h1, h2, h3⟩ := h
  simp at h1
  rw [h1]
  exact ⟨h2, h3⟩
theorem Enc.get {big : Bool} {rs : List Int} {i : Nat} {L : List Int} {r : Int} {rest : List Int} (h : Enc big rs i L (r :: rest)) : i + (Lib.encodeRuneZ r).length ≤ (textOf rs).length ∧ ∀ j, j < (Lib.encodeRuneZ r).length → (textOf rs).getD (i + j) 0 = (Lib.encodeRuneZ r).getD j 0 := by
  obtain ⟨rs1, h1, h2, h3⟩ := h
  rw [h1, text_append, text_cons, h2]
  exact ⟨by simp, fun j hj => getD_mid _ _ _ j hj⟩
theorem Enc.pos {big : Bool} {rs : List Int} {i : Nat} {L rs2 : List Int} (h : Enc big rs i L rs2) (hi : ¬ i < (textOf rs).length) : rs2 = [] := by
  obtain ⟨rs1, h1, h2, h3⟩ := h
  cases rs2 with
  | nil => rfl
  | cons r rest =>
    exfalso
    rw [h1, text_append, text_cons] at hi
    have := (Lib.encodeRuneZ_length r).1
    simp at hi
    omega
theorem Enc.char {big : Bool} {rs : List Int} {i : Nat} {L : List Int} {r : Int} {rest : List Int} (h : Enc big rs i L (r :: rest)) (hc : ∀ r ∈ rs, charS r) : charS r := by
  obtain ⟨rs1, h1, _⟩ := h
  exact hc r (by rw [h1]; simp)

set_option maxHeartbeats 2000000 in
set_option maxRecDepth 100000 in
theorem encode_any (ao : Option Addr) (T c : Nat) (f : Nat → Int) (rs : List Int) (big : Bool) (w : World) (hT : T = (textOf rs).length) (hf : f = fun k => (textOf rs).getD k 0) (hB : Byt w.heap.size w ao T f) (hrs : ∀ r ∈ rs, charS r) (hlen : rs.length ≤ 4194304) (hTn : T ≤ 16777216) :
    Calls Try.prog 7 #[.slice ao T c, .bool big] w fun e w' => ∃ v, e = .returned (.tuple #[v, .bool true]) ∧ w'.ownsRow w.heap.size 5 1 v (outB big rs).length (cellS (outB big rs)) ∧ Below w.heap.size w w' := by
  obtain ⟨i0, hi, hz0, hz1, hz2⟩ := info_parts info5
  have HT := hid hT
  have HFF := hid hf
  have HRS := hid hrs
  have HLEN := hid hlen
  clear hT hf hrs hlen
  go_enter Try.func7, Try.ntmps7
  go_wp2_with (first
    | (at_make; refine wpList_make_own _ rfl _ _ 22 rfl w.heap.size 5 i0 (.int .u8 0) 1 Try.underlying22 hi hz0 hz1 _ _ _ (2 * T) rfl rfl (by omega) (by rw [hz2]; omega) (by unfold maxLen; omega) (Nat.le_refl _) ?_; intro w1 hrow1 hg1))
  go_loopw [6, 7] (fun v a wr => ∃ (i : Nat) (L rs2 : List Int), i ≤ T ∧ a = .int .i64 i ∧ Enc big rs i L rs2 ∧ wr.ownsRow w.heap.size 5 1 v L.length (cellS L) ∧ Below w.heap.size w wr) (fun _ a _ => T - (intOf a).toNat)
  case atStart => exact ⟨0, [], rs, by omega, rfl, ⟨[], rfl, rfl, rfl⟩, hrow1, below_make hg1⟩
  case round =>
    clear hrow1 hg1
    obtain ⟨i, L, rs2, hiT, rfl, hE, hown, hbel⟩ := hrel
    by_cases hlt : i < T
    · cases rs2 with
      | nil => have := hE.stop.1; rw [← HT.out] at this; omega
      | cons r rest =>
      have hE2 := hE.next
      have hget := hE.get
      have hlenL := hE.len HLEN.out
      have hch := hE.char HRS.out
      obtain ⟨hb1, hb2⟩ := hget
      rw [← HT.out] at hb1
      obtain ⟨R, hrun⟩ := run_of (b := fun j => f (i + j)) hch (fun j hj => by rw [HFF.out]; exact hb2 j hj)
      obtain ⟨m, hm⟩ : ∃ m, m = (Lib.encodeRuneZ r).length := ⟨_, rfl⟩
      rw [← hm] at hE2 hb1 hrun
      clear hb2 hE hch
      have hcell : ∀ j, j < m → ∃ g off, ao = some ⟨g, off, none⟩ ∧ g < w.heap.size ∧ wr.cell? ⟨g, off + (i + j), none⟩ = some (.int .u8 (f (i + j))) ∧ 0 ≤ f (i + j) ∧ f (i + j) ≤ 255 := fun j hj => (hB.below hbel) (i + j) (by omega)
      have HM := hid hm
      have HE := hid hE2
      have HO := hid hown
      have HRUN := hid hrun
      have HC := hid hcell
      have hm1 := hrun.m1
      have hm4 := hrun.m4
      clear hm hE2 hown hrun hcell
      obtain ⟨g, off, rfl, hg, c0, x0, x1⟩ := HC.out 0 (by omega)
      obtain ⟨x, hx⟩ : ∃ x, x = f i := ⟨_, rfl⟩
      simp only [Nat.add_zero] at c0 x0 x1
      rw [← hx] at c0 x0 x1
      have HX := hid hx
      clear hx
      go_upto_if 28 with (fail)
      go_cut [9, 10] (fun s9 s10 wc => s9 = .int .i64 (R 1) ∧ s10 = .int .i64 m ∧ wc = wr)
      case first =>
        rcases (show m = 1 ∨ m = 2 ∨ m = 3 ∨ m = 4 by omega) with h | h | h | h
        · obtain ⟨y0, y1, y2⟩ := HRUN.out.one h
          rw [show f (i + 0) = x from HX.out.symm] at y0 y1 y2
          have Y2 := hid y2
          have b1 : decide (x < 128) = true := by simp; omega
          subst h
          clear y2
          go_wp2_with fail
          go_meet
          case rel => exact ⟨by rw [Y2.out], rfl, rfl⟩
        · obtain ⟨y0, y1, y2⟩ := HRUN.out.two h
          rw [show f (i + 0) = x from HX.out.symm] at y0 y1 y2
          have Y2 := hid y2
          have b1 : decide (x < 128) = false := by simp; omega
          have b2 : decide (194 ≤ x) = true := by simp; omega
          have b3 : decide (x ≤ 223) = true := by simp; omega
          have e1 : bits .and .i64 x 31 = x % 32 := i64_mask 5 (by decide) x x0 (by omega)
          subst h
          clear y2
          go_wp2_with fail
          go_meet
          case rel => exact ⟨by rw [Y2.out], rfl, rfl⟩
        · obtain ⟨y0, y1, y2⟩ := HRUN.out.three h
          rw [show f (i + 0) = x from HX.out.symm] at y0 y1 y2
          have Y2 := hid y2
          have b1 : decide (x < 128) = false := by simp; omega
          have b2 : decide (194 ≤ x) = true := by simp; omega
          have b3 : decide (x ≤ 223) = false := by simp; omega
          have b4 : decide (224 ≤ x) = true := by simp; omega
          have b5 : decide (x ≤ 239) = true := by simp; omega
          have e1 : bits .and .i64 x 15 = x % 16 := i64_mask 4 (by decide) x x0 (by omega)
          subst h
          clear y2
          go_wp2_with fail
          go_meet
          case rel => exact ⟨by rw [Y2.out], rfl, rfl⟩
        · obtain ⟨y0, y1, y2⟩ := HRUN.out.four h
          rw [show f (i + 0) = x from HX.out.symm] at y0 y1 y2
          have Y2 := hid y2
          have b1 : decide (x < 128) = false := by simp; omega
          have b2 : decide (194 ≤ x) = true := by simp; omega
          have b3 : decide (x ≤ 223) = false := by simp; omega
          have b4 : decide (224 ≤ x) = true := by simp; omega
          have b5 : decide (x ≤ 239) = false := by simp; omega
          have b6 : decide (240 ≤ x) = true := by simp; omega
          have b7 : decide (x ≤ 244) = true := by simp; omega
          have e1 : bits .and .i64 x 7 = x % 8 := i64_mask 3 (by decide) x x0 (by omega)
          subst h
          clear y2
          go_wp2_with fail
          go_meet
          case rel => exact ⟨by rw [Y2.out], rfl, rfl⟩
      case rest =>
        obtain ⟨rfl, rfl, rfl⟩ := hcut
        clear c0 x0 x1 HX
        have b0 : decide ((T : Int) - (i : Int) < (m : Int)) = false := by simp; omega
        go_wp2_with fail
        go_loopw [9, 11] (fun a b wx => ∃ (j : Nat), 1 ≤ j ∧ j ≤ m ∧ a = .int .i64 (R j) ∧ b = .int .i64 j ∧ wx = wc) (fun _ b _ => m - (intOf b).toNat)
        case atStart => exact ⟨1, by omega, hm1, rfl, rfl, rfl⟩
        case round =>
          obtain ⟨j, hj1, hjm, rfl, rfl, rfl⟩ := hrel
          by_cases hjl : j < m
          · obtain ⟨d0, d1, d2, d3, d4⟩ := HRUN.out.step j hj1 hjl
            obtain ⟨g', off', e', hg', cj, _, _⟩ := HC.out j hjl
            cases e'
            obtain ⟨y, hy⟩ : ∃ y, y = f (i + j) := ⟨_, rfl⟩
            obtain ⟨R0, hR0⟩ : ∃ R0, R0 = R j := ⟨_, rfl⟩
            rw [← hR0] at d2 d3 d4
            have d0' : 128 ≤ y := by rw [hy]; exact d0
            have d1' : y < 192 := by rw [hy]; exact d1
            have d2' : R (j + 1) = R0 * 64 + y % 64 := by rw [hy]; exact d2
            rw [← hy] at cj
            have D2 := hid d2'
            have e1 := i64_and192 y d0' d1'
            have e2 : bits .and .i64 y 63 = y % 64 := i64_mask 6 (by decide) y (by omega) (by omega)
            have e3 := i64_or6 R0 (y % 64) d3 (by omega) (by omega) (by omega)
            rw [← hR0]
            clear d0 d1 d2 d2' hy hR0
            go_wp2
            go_roundw
            case rel => exact ⟨j + 1, by omega, by omega, by rw [D2.out], by go_num, by first | rfl | trivial⟩
            case measure => simp [intOf]; omega
          · obtain rfl : j = m := by omega
            rw [HRUN.out.last]
            have r0 := HRUN.out.r0
            have r5 := HRUN.out.r5
            by_cases hm2 : j ≤ 2
            · have r2 := HRUN.out.r2 hm2
              have b1 : ((j : Int) == 3) = false := by simp; omega
              have b2 : ((j : Int) == 4) = false := by simp; omega
              have b3 : decide (55296 ≤ r) = false := by simp; omega
              have b4 : decide (r < 65536) = true := by simp; omega
              have ca := put_any w.heap.size u6 L.length L r big r0 (by omega) wr HO.out (by omega) hbel.size
              have CA := hid ca
              clear ca
              go_wp2_with fail
              refine CA.out.mono ?_
              rintro e wW ⟨v', rfl, hown3, o, hg3⟩
              have hen : (encS r).flatMap (putS big) = putS big r := by rw [enc_one (by omega)]; simp
              have e1 : wW.ownsRow w.heap.size 5 1 v' (L ++ (encS r).flatMap (putS big)).length (cellS (L ++ (encS r).flatMap (putS big))) := by rw [hen, List.length_append, putS_len]; exact hown3
              have e2 : Below w.heap.size w wW := (hbel.alloc hbel.size o).grown hg3 (by have := hbel.size; simp; omega) (fun j hj => (HO.out.lt j hj).1)
              have E1 := hid e1
              clear CA hown3 hg3 hen e1
              go_wp2
              go_roundw
              case rel => exact ⟨i + j, L ++ (encS r).flatMap (putS big), rest, hb1, by first | rfl | (congr 1; done) | (congr 1; omega), HE.out, E1.out, e2⟩
              case measure => simp [intOf]; omega
            · by_cases hm3 : j = 3
              · have r3 := HRUN.out.r3 hm3
                have r4 : r < 65536 := by have := HRUN.out.r4; omega
                rcases HRUN.out.sur with hs | hs
                · have b1 : ((j : Int) == 3) = true := by simp; omega
                  have b2 : ((j : Int) == 4) = false := by simp; omega
                  have b5 : decide (r < 2048) = false := by simp; omega
                  have b4 : decide (r < 65536) = true := by simp; omega
                  have b3 : decide (55296 ≤ r) = false := by simp; omega
                  have ca := put_any w.heap.size u6 L.length L r big r0 (by omega) wr HO.out (by omega) hbel.size
                  have CA := hid ca
                  clear ca
                  go_wp2_with fail
                  refine CA.out.mono ?_
                  rintro e wW ⟨v', rfl, hown3, o, hg3⟩
                  have hen : (encS r).flatMap (putS big) = putS big r := by rw [enc_one (by omega)]; simp
                  have e1 : wW.ownsRow w.heap.size 5 1 v' (L ++ (encS r).flatMap (putS big)).length (cellS (L ++ (encS r).flatMap (putS big))) := by rw [hen, List.length_append, putS_len]; exact hown3
                  have e2 : Below w.heap.size w wW := (hbel.alloc hbel.size o).grown hg3 (by have := hbel.size; simp; omega) (fun j hj => (HO.out.lt j hj).1)
                  have E1 := hid e1
                  clear CA hown3 hg3 hen e1
                  go_wp2
                  go_roundw
                  case rel => exact ⟨i + j, L ++ (encS r).flatMap (putS big), rest, hb1, by first | rfl | (congr 1; done) | (congr 1; omega), HE.out, E1.out, e2⟩
                  case measure => simp [intOf]; omega
                · have b1 : ((j : Int) == 3) = true := by simp; omega
                  have b2 : ((j : Int) == 4) = false := by simp; omega
                  have b5 : decide (r < 2048) = false := by simp; omega
                  have b4 : decide (r < 65536) = true := by simp; omega
                  have b3 : decide (55296 ≤ r) = true := by simp; omega
                  have b6 : decide (r ≤ 57343) = false := by simp; omega
                  have ca := put_any w.heap.size u6 L.length L r big r0 (by omega) wr HO.out (by omega) hbel.size
                  have CA := hid ca
                  clear ca
                  go_wp2_with fail
                  refine CA.out.mono ?_
                  rintro e wW ⟨v', rfl, hown3, o, hg3⟩
                  have hen : (encS r).flatMap (putS big) = putS big r := by rw [enc_one (by omega)]; simp
                  have e1 : wW.ownsRow w.heap.size 5 1 v' (L ++ (encS r).flatMap (putS big)).length (cellS (L ++ (encS r).flatMap (putS big))) := by rw [hen, List.length_append, putS_len]; exact hown3
                  have e2 : Below w.heap.size w wW := (hbel.alloc hbel.size o).grown hg3 (by have := hbel.size; simp; omega) (fun j hj => (HO.out.lt j hj).1)
                  have E1 := hid e1
                  clear CA hown3 hg3 hen e1
                  go_wp2
                  go_roundw
                  case rel => exact ⟨i + j, L ++ (encS r).flatMap (putS big), rest, hb1, by first | rfl | (congr 1; done) | (congr 1; omega), HE.out, E1.out, e2⟩
                  case measure => simp [intOf]; omega
              · have r4 : 65536 ≤ r := HRUN.out.r4.1 (by omega)
                have b1 : ((j : Int) == 3) = false := by simp; omega
                have b2 : ((j : Int) == 4) = true := by simp; omega
                have b4 : decide (r < 65536) = false := by simp; omega
                have b7 : decide (1114111 < r) = false := by simp; omega
                have b3 : decide (55296 ≤ r) = true := by simp; omega
                have b6 : decide (r ≤ 57343) = false := by simp; omega
                have e0 : bits .and .i64 (r - 65536) 1023 = (r - 65536) % 1024 := i64_mask 10 (by decide) (r - 65536) (by omega) (by omega)
                obtain ⟨h, hh⟩ : ∃ h, h = 55296 + (r - 65536) / 1024 := ⟨_, rfl⟩
                obtain ⟨l, hl⟩ : ∃ l, l = 56320 + (r - 65536) % 1024 := ⟨_, rfl⟩
                have ca := put_any w.heap.size u6 L.length L h big (by omega) (by omega) wr HO.out (by omega) hbel.size
                rw [hh] at ca
                have CA := hid ca
                have HH := hid hh
                have HL := hid hl
                have hh0 : 0 ≤ h := by omega
                have hh1 : h ≤ 65535 := by omega
                have hl0 : 0 ≤ l := by omega
                have hl1 : l ≤ 65535 := by omega
                clear ca hh hl
                go_wp2_with fail
                refine CA.out.mono ?_
                rintro e wW ⟨v', rfl, hown3, o, hg3⟩
                rw [← HH.out] at hown3
                have e2 : Below w.heap.size w wW := (hbel.alloc hbel.size o).grown hg3 (by have := hbel.size; simp; omega) (fun j hj => (HO.out.lt j hj).1)
                have ca := put_any w.heap.size v' (L.length + 2) (L ++ putS big h) l big hl0 hl1 wW hown3 (by omega) e2.size
                rw [HL.out] at ca
                have CB := hid ca
                have HO3 := hid hown3
                clear CA ca hg3 hown3
                go_wp2_with fail
                refine CB.out.mono ?_
                rintro e wY ⟨v2, rfl, hown4, o2, hg4⟩
                rw [← HL.out] at hown4
                have hen : (encS r).flatMap (putS big) = putS big h ++ putS big l := by unfold encS; rw [if_neg (by omega), ← HH.out, ← HL.out]; simp
                have e1 : wY.ownsRow w.heap.size 5 1 v2 (L ++ (encS r).flatMap (putS big)).length (cellS (L ++ (encS r).flatMap (putS big))) := by rw [hen, List.length_append, List.length_append, putS_len, putS_len, ← List.append_assoc]; exact hown4
                have e3 : Below w.heap.size w wY := (e2.alloc e2.size o2).grown hg4 (by have := e2.size; simp; omega) (fun j hj => (HO3.out.lt j hj).1)
                have E1 := hid e1
                clear CB hown4 hg4 hen e1 e2
                go_wp2
                go_roundw
                case rel => exact ⟨i + j, L ++ (encS r).flatMap (putS big), rest, hb1, by first | rfl | (congr 1; done) | (congr 1; omega), HE.out, E1.out, e3⟩
                case measure => simp [intOf]; omega
    · have hnil := hE.pos (by rw [← HT.out]; exact hlt)
      subst hnil
      have hst := hE.stop.2
      subst hst
      have HO := hid hown
      clear hE hown
      go_wp2
      go_ret2
      exact ⟨_, rfl, HO.out, hbel⟩
end Go.Proofs.Qxb6614447a
