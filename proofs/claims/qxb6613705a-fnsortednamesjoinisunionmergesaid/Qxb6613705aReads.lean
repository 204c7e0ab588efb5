import Derived.Test.Qxb6613705aBase
namespace Go.Proofs.Qxb6613705a
open Go.RowKit
set_option maxHeartbeats 400000 in
/-- strictlyAscending at a strictly ascending list: true. -/
theorem ascending_any (B : Nat) (ao : Option Addr) (cap : Nat) (ss : List Txt) (w : World) (hR : Rd B w ao ss) (hA : Asc ss) (hn : ss.length ≤ 4194304) :
    Calls Try.prog 10 #[.slice ao ss.length cap] w fun e w' => e = .returned (.bool true) ∧ ∃ q, w' = w.drewN q := by
  go_enter Try.func10, Try.ntmps10
  go_wp2
  go_loopw [3] (fun i wr => ∃ k q : Nat, 1 ≤ k ∧ (k ≤ ss.length ∨ k = 1) ∧ i = .int .i64 k ∧ wr = w.drewN q) (fun i _ => ss.length + 1 - (intOf i).toNat)
  case atStart => exact ⟨1, 0, by omega, .inr rfl, rfl, rfl⟩
  case round =>
    obtain ⟨k, q, hk1, hk, rfl, rfl⟩ := hrel
    by_cases hlt : k < ss.length
    · obtain ⟨x, hx⟩ : ∃ x, ss[k - 1]? = some x := ⟨_, List.getElem?_eq_getElem (by omega)⟩
      obtain ⟨y, hy⟩ : ∃ y, ss[k]? = some y := ⟨_, List.getElem?_eq_getElem hlt⟩
      have hxy := hA.lt hx hy (by omega)
      have hless : Op.bytesLess x y = true := by rw [less_txt]; simpa using hxy
      obtain ⟨g, off, rfl, hg, hcy⟩ := hR k y hy
      obtain ⟨g', off', e, hg', hcx⟩ := hR (k - 1) x hx
      cases e
      clear hx hy hxy
      go_wp2
      go_quiet (fail)
      go_wp2
      go_roundw
      case rel => exact ⟨k + 1, q + nq, by omega, .inl (by omega), by go_num, by simp⟩
      case measure => simp [intOf]; omega
    · go_wp2
      go_ret
      exact ⟨rfl, q, rfl⟩
set_option maxHeartbeats 400000 in
/-- equalStrings at two slices that hold one list: true. -/
theorem equal_any (B : Nat) (ao bo : Option Addr) (cap cap' : Nat) (ss : List Txt) (w : World) (hR : Rd B w ao ss) (hS : Rd B w bo ss) (hn : ss.length ≤ 4194304) :
    Calls Try.prog 7 #[.slice ao ss.length cap, .slice bo ss.length cap'] w fun e w' => e = .returned (.bool true) ∧ ∃ q, w' = w.drewN q := by
  go_enter Try.func7, Try.ntmps7
  go_wp2
  go_loopw [5] (fun i wr => ∃ k q : Nat, k ≤ ss.length ∧ i = .int .i64 k ∧ wr = w.drewN q) (fun i _ => ss.length - (intOf i).toNat)
  case atStart => exact ⟨0, 0, by omega, rfl, rfl⟩
  case round =>
    obtain ⟨k, q, hk, rfl, rfl⟩ := hrel
    by_cases hlt : k < ss.length
    · obtain ⟨y, hy⟩ : ∃ y, ss[k]? = some y := ⟨_, List.getElem?_eq_getElem hlt⟩
      obtain ⟨g, off, rfl, hg, hcy⟩ := hR k y hy
      obtain ⟨g', off', rfl, hg', hcx⟩ := hS k y hy
      clear hy
      go_wp2
      go_quiet (fail)
      go_wp2
      go_roundw
      case rel => exact ⟨k + 1, q + nq, by omega, by go_num, by simp⟩
      case measure => simp [intOf]; omega
    · go_wp2
      go_ret
      exact ⟨rfl, q, rfl⟩

set_option maxHeartbeats 400000 in
/-- findIn at a strictly ascending list and its j-th text: j. -/
theorem find_any (B : Nat) (ao : Option Addr) (cap : Nat) (ss : List Txt) (j : Nat) (x : Txt) (w : World) (hR : Rd B w ao ss) (hA : Asc ss) (hn : ss.length ≤ 4194304) (hj : ss[j]? = some x) :
    Calls Try.prog 11 #[.slice ao ss.length cap, .string ⟨x.toArray⟩] w fun e w' => e = .returned (.int .i64 j) ∧ w' = w := by
  have hjn : j < ss.length := (List.getElem?_eq_some_iff.1 hj).1
  obtain ⟨g, off, rfl, hg, hcx⟩ := hR j x hj
  go_enter Try.func11, Try.ntmps11
  go_wp2
  go_loop [5, 6] (fun a b => ∃ lo hi : Nat, lo ≤ j ∧ j ≤ hi ∧ hi ≤ ss.length ∧ a = .int .i64 lo ∧ b = .int .i64 hi) (fun a b => (intOf b - intOf a).toNat)
  case atStart => exact ⟨0, ss.length, by omega, by omega, by omega, rfl, rfl⟩
  case round =>
    obtain ⟨lo, hi, h1, h2, h3, rfl, rfl⟩ := hrel
    by_cases hlt : lo < hi
    · obtain ⟨m, hm⟩ : ∃ m : Nat, m = lo + (hi - lo) / 2 := ⟨_, rfl⟩
      have hm1 : lo ≤ m := by omega
      have hm2 : m < hi := by omega
      obtain ⟨y, hy⟩ : ∃ y, ss[m]? = some y := ⟨_, List.getElem?_eq_getElem (by omega)⟩
      obtain ⟨g', off', e, _, hcy⟩ := hR m y hy
      cases e
      have hiff := hA.lt_iff hy hj
      have hm' : (lo : Int) + ((hi : Int) - (lo : Int)) / 2 = (m : Int) := by omega
      clear hm
      by_cases hmj : m < j
      · have hless : Op.bytesLess y x = true := by rw [less_txt]; simpa using hiff.2 hmj
        clear hy hiff
        go_wp2
        go_round
        case rel => exact ⟨m + 1, hi, by omega, by omega, by omega, by go_num, rfl⟩
        case measure => simp [intOf]; omega
      · have hless : Op.bytesLess y x = false := by rw [less_txt]; simpa using fun h => hmj (hiff.1 h)
        clear hy hiff
        go_wp2
        go_round
        case rel => exact ⟨lo, m, by omega, by omega, by omega, rfl, rfl⟩
        case measure => simp [intOf]; omega
    · obtain rfl : lo = j := by omega
      go_wp2
      go_ret
      exact ⟨rfl, rfl⟩
/-- What zzBytes tells where it says yes. -/
def Small (xs ys : List Txt) : Prop := xs.length ≤ 1048576 ∧ ys.length ≤ 1048576 ∧ (∀ x ∈ xs, x.length ≤ 1048576) ∧ ∀ y ∈ ys, y.length ≤ 1048576

theorem all_snoc {xs : List Txt} {k : Nat} {x : Txt} {P : Txt → Prop} (h : ∀ u ∈ xs.take k, P u) (hk : xs[k]? = some x) (hx : P x) : ∀ u ∈ xs.take (k + 1), P u := by
  intro u hu
  rcases (mem_take_succ hk u).1 hu with hu | rfl
  · exact h u hu
  · exact hx

/-- What zzBytes comes to: no, or yes and all is small; the world as it was. -/
def BytesPost (xs ys : List Txt) (w : World) (e : Ending) (w' : World) : Prop := ∃ r : Bool, e = .returned (.bool r) ∧ (r = true → Small xs ys) ∧ w' = w

set_option maxHeartbeats 400000 in
theorem bytes_any (B : Nat) (ao bo : Option Addr) (cap cap' : Nat) (xs ys : List Txt) (w : World) (hR : Rd B w ao xs) (hS : Rd B w bo ys) (hx : xs.length ≤ maxLen) (hy : ys.length ≤ maxLen)
    (hxs : ∀ x ∈ xs, x.length ≤ maxLen) (hys : ∀ y ∈ ys, y.length ≤ maxLen) :
    Calls Try.prog 4 #[.slice ao xs.length cap, .slice bo ys.length cap'] w fun e w' => BytesPost xs ys w e w' := by
  unfold maxLen at hx hy hxs hys
  by_cases hx1 : 1048576 < xs.length
  · go_enter Try.func4, Try.ntmps4
    go_wp2
    go_ret
    exact ⟨false, rfl, by simp, rfl⟩
  go_enter Try.func4, Try.ntmps4
  go_wp2
  go_loop [5, 6] (fun t i => ∃ k n : Nat, k ≤ xs.length ∧ n ≤ 1048576 ∧ t = .int .i64 n ∧ i = .int .i64 k ∧ ∀ x ∈ xs.take k, x.length ≤ 1048576) (fun _ i => xs.length - (intOf i).toNat)
  case atStart => exact ⟨0, xs.length, by omega, by omega, by go_num, rfl, by simp⟩
  case round =>
    obtain ⟨k, n, hk, hn, rfl, rfl, hall⟩ := hrel
    by_cases hlt : k < xs.length
    · obtain ⟨x, hkx⟩ : ∃ x, xs[k]? = some x := ⟨_, List.getElem?_eq_getElem hlt⟩
      have hxl : x.length ≤ 9223372036854775807 := hxs x (List.mem_of_getElem? hkx)
      obtain ⟨g, off, rfl, hg, hcx⟩ := hR k x hkx
      have HA : Hid (∀ u ∈ xs.take k, u.length ≤ 1048576) := hall
      have HK : Hid (xs[k]? = some x) := hkx
      clear hall hkx hxs hys
      go_wp2
      · go_ret
        exact ⟨false, rfl, by simp, rfl⟩
      · go_ret
        exact ⟨false, rfl, by simp, rfl⟩
      · go_round
        case rel => exact ⟨k + 1, n + x.length, by omega, by omega, by go_num, by go_num, all_snoc HA.out HK.out (by omega)⟩
        case measure => simp [intOf]; omega
    · obtain rfl : k = xs.length := by omega
      have HA : Hid (∀ u ∈ xs, u.length ≤ 1048576) := fun u hu => hall u (by rw [List.take_length]; exact hu)
      clear hall hxs
      by_cases hy1 : 1048576 < ys.length
      · go_wp2
        go_ret
        exact ⟨false, rfl, by simp, rfl⟩
      go_wp2
      · go_ret
        exact ⟨false, rfl, by simp, rfl⟩
      go_loop [5, 7] (fun t i => ∃ k n : Nat, k ≤ ys.length ∧ n ≤ 1048576 ∧ t = .int .i64 n ∧ i = .int .i64 k ∧ ∀ x ∈ ys.take k, x.length ≤ 1048576) (fun _ i => ys.length - (intOf i).toNat)
      case atStart => exact ⟨0, n + ys.length, by omega, by omega, by go_num, rfl, by simp⟩
      case round =>
        obtain ⟨k, m, hk, hm, rfl, rfl, hall⟩ := hrel
        by_cases hlt : k < ys.length
        · obtain ⟨x, hkx⟩ : ∃ x, ys[k]? = some x := ⟨_, List.getElem?_eq_getElem hlt⟩
          have hxl : x.length ≤ 9223372036854775807 := hys x (List.mem_of_getElem? hkx)
          obtain ⟨g, off, rfl, hg, hcx⟩ := hS k x hkx
          have HB : Hid (∀ u ∈ ys.take k, u.length ≤ 1048576) := hall
          have HK : Hid (ys[k]? = some x) := hkx
          clear hall hkx hys
          go_wp2
          · go_ret
            exact ⟨false, rfl, by simp, rfl⟩
          · go_ret
            exact ⟨false, rfl, by simp, rfl⟩
          · go_round
            case rel => exact ⟨k + 1, m + x.length, by omega, by omega, by go_num, by go_num, all_snoc HB.out HK.out (by omega)⟩
            case measure => simp [intOf]; omega
        · obtain rfl : k = ys.length := by omega
          have HB : Hid (∀ u ∈ ys, u.length ≤ 1048576) := fun u hu => hall u (by rw [List.take_length]; exact hu)
          clear hall hys
          go_wp2
          go_ret
          exact ⟨true, rfl, fun _ => ⟨by omega, by omega, HA.out, HB.out⟩, rfl⟩
end Go.Proofs.Qxb6613705a
