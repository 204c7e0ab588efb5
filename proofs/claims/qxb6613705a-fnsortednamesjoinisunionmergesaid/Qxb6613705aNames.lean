import Derived.Test.Qxb6613705aSame
import Derived.Test.Qxb6613705aShelf
import Derived.Sort.EveryDepth
import Derived.Sort.KeysCollected
import Derived.Sort.OwnSorted
import Derived.Maps.RangeWalk
import Derived.Maps.AppendAt
namespace Go.Proofs.Qxb6613705a
open Go.RowKit Go.Maps Go.Sort

theorem law9 : Keyed Try.prog 9 := string_keyed Try.underlying9

/-- How an element that is the nil of type any reads. -/
def nilElem (v : Value) : Option (DataW Unit × List MemPlace) :=
  match v with
  | .nilIface => some (.lit (.bool true), [])
  | _ => none

theorem nilElem_inv {v : Value} {y : DataW Unit × List MemPlace} (h : nilElem v = some y) : ∃ c : Unit, v = (fun _ : Unit => Value.nilIface) c := by
  unfold nilElem at h
  split at h
  · exact ⟨(), rfl⟩
  · cases h

/-- slices.Sort over this program: the library's contract, laid. -/
theorem sort_any (blk off cap : Nat) (ss : List Txt) (w : World) (hH : Holds encStr w blk off ss.toArray) (hblk : blk < w.heap.size) (hsz : ss.length < 4611686018427387904) :
    Calls Try.prog 12 #[.slice (some ⟨blk, off, none⟩) ss.length cap] w fun e w' =>
      e = .returned (.tuple #[]) ∧ ∃ n os, w' = grow (putRow encStr (Sort.ahead w n) blk off (ss.mergeSort fun x y => decide (x ≤ y)).toArray) os :=
  calls_of_every_depth fun D => AnyS.slices_Sort_string_in Try.lays190 D blk off cap ss w hH hblk hsz

theorem ownsMap_size {w : World} {b n : Nat} {D : DataW Unit} (h : w.ownsMap Try.prog 9 nilElem b n D) : Maps.size D ≤ n := by
  obtain ⟨es, clock, _, _, hs, rfl⟩ := h
  simpa [Maps.size, length_sorted] using hs

set_option maxHeartbeats 1000000 in
theorem names_any (b n : Nat) (D0 : DataW Unit) (w : World) (hown : w.ownsMap Try.prog 9 nilElem b n D0) (hn : n ≤ 4194304) :
    Calls Try.prog 9 #[.map (some b)] w fun e w' => ∃ (g cap : Nat) (ss : List Txt), e = .returned (.slice (some ⟨g, 0, none⟩) ss.length cap) ∧ ss.Nodup ∧ (∀ x, x ∈ ss ↔ Maps.has D0 (.string x) = true) ∧
      w'.ownsRow w.heap.size 9 1 (.slice (some ⟨g, 0, none⟩) ss.length cap) ss.length ((ss.mergeSort (fun x y => decide (x ≤ y))).map encStr) ∧ Below w.heap.size w w' := by
  obtain ⟨i0, hi, hz0, hz1, hz2⟩ := info_parts info9
  have hbl := hown.lt
  have hsz := ownsMap_size hown
  go_enter Try.func9, Try.ntmps9
  go_wp2_with (first
    | (at_len; refine wpList_len_own _ rfl _ 26 rfl 9 20 Try.underlying26 _ b n _ rfl hown ?_)
    | (at_make; refine wpList_make_own _ rfl _ _ 22 rfl w.heap.size 9 i0 (.string ⟨#[]⟩) 1 Try.underlying22 hi hz0 hz1 _ _ _ (Maps.size D0) rfl rfl rfl (by rw [hz2]; omega) (by unfold maxLen; omega) (Nat.le_refl _) ?_; intro w1 hrow1 hg1)
    | (at_range; refine wpList_range_own _ rfl _ 26 rfl 9 20 law9 Try.underlying26 _ b n _ rfl (hown.kept hg1 (by simp)) ?_; intro w0 hrg0 hg0 hs0)
    | go_in)
  go_frame
  go_loopw [3] (fun v wr => ∃ (left : Lit → Bool) (cnt : Nat) (ss : List Txt), wr.ranges Try.prog 9 nilElem b w1.heap.size n D0 left cnt ∧ ss.length + cnt ≤ Maps.size D0 ∧
      wr.ownsRow w.heap.size 9 1 v ss.length (ss.map encStr) ∧ v ≠ .slice none 0 0 ∧ Collected D0 left ss ∧ Below w.heap.size w wr)
    (fun _ wr => wr.rangeLeft b w1.heap.size)
  case atStart =>
    exact ⟨_, _, [], hrg0, by simp, hrow1.kept hg0 (Or.inr (by simp [Value.ownBlock])), by simp, Collected.start D0,
      ((Below.refl _ _).grown hg1 (Nat.le_refl _) (fun j hj => by cases hj)).grown hg0 hg1.size (fun j hj => by cases hj)⟩
  case round =>
    obtain ⟨left, cnt, ss, hrg, hcs, hrow, hnn, hC, hnx⟩ := hrel
    go_wp2_with (first
      | (at_next; refine wpList_next_ranges _ rfl _ rfl 9 law9 nilElem encStr (fun _ : Unit => Value.nilIface) (fun key kl hk => by obtain ⟨x, hx, _⟩ := Maps.keyOf_str Try.underlying9 hk; exact ⟨x, hx⟩) (fun v y hv => nilElem_inv hv) b w1.heap.size n _ _ _ rfl hrg ?_ ?_)
      | go_in)
    · -- nothing is left: the slice is sorted and handed back
      intro hc0 hl0
      rcases hrow.2 with ⟨hnil, _⟩ | ⟨g, cap, cur, rfl, hbase, hb, h1, h2, h3, h4⟩
      · exact absurd hnil hnn
      have hH : Holds encStr wr g 0 ss.toArray := holds_of_block hb (by simpa using h4)
      have hgl : g < wr.heap.size := (Array.getElem?_eq_some_iff.1 hb).1
      have hc := sort_any g 0 cap ss wr hH hgl (by omega)
      go_wp2_with (go_at_call 12; refine hc.mono ?_; rintro e w' ⟨rfl, nn, os, rfl⟩)
      go_ret
      exact ⟨g, cap, ss, rfl, hC.1, fun x => by rw [hC.2 x, hl0]; simp, ownsRow_sorted (by simp) hbase hb h1 h2 h3, hnx.grown (grownBy_sorted _) hnx.size (fun j hj => by cases hj; exact hbase)⟩
    · -- an entry has come: its key goes to the slice's end
      intro x kl yd yp w2 cnt2 hkey hlk hv hat hrg2 hlt hg2 hs2 hen
      obtain ⟨x', ex, rfl, _⟩ := Maps.keyOf_str Try.underlying9 hkey
      obtain rfl : x = x' := encStr_inj ex
      have hrow2 := hrow.kept hg2 (Or.inr (row_ne_iter hrow hrg).symm)
      clear hs2
      go_wp2_with (first
        | (at_builtin; refine wpList_append_own _ rfl _ _ 22 rfl w.heap.size 9 i0 (.string ⟨#[]⟩) 1 16 Try.underlying22 hi hz0 hz1 hz2 rfl (by decide) _ _ _ rfl (hrow2.alloc _) ⟨w2.heap.size, 0, none⟩ 1 1 [encStr x] rfl rfl (cell_one_new _ _ _) (by simp [Value.oneCell', encStr]) (by unfold maxLen at *; omega) (by omega) (by have := hnx.size; have := hg2.size; simp; omega) ?_; intro v' w3 hown' hg3 hnil3; go_frame)
        | go_in)
      have hrg3 := (hrg2.alloc _).kept hg3 (row_ne_low hrow2 hbl) (row_ne_iter hrow2 hrg2)
      go_roundw
      case rel =>
        refine ⟨_, cnt2, ss ++ [x], hrg3, by simp; omega, by simpa using hown', fun hv' => by have := (hnil3.1 hv').2; omega, hC.step hlk hat, ?_⟩
        exact ((hnx.grown hg2 hnx.size (fun j hj => by cases hj; exact hg1.size)).alloc (by have := hnx.size; have := hg2.size; omega) _).grown hg3 (by have := hnx.size; have := hg2.size; simp; omega) (fun j hj => (hrow2.lt j hj).1)
      case measure => rw [hrg3.left_eq, hrg.left_eq]; exact hlt

theorem has_step {D : DataW Unit} {keys : List Txt} {k : Nat} {x : Txt} (hD : IsMap D) (h : ∀ v : Txt, Maps.has D (.string v) = true ↔ v ∈ keys.take k) (hx : keys[k]? = some x) (d : DataW Unit) :
    ∀ v : Txt, Maps.has (D.put (.string x) d) (.string v) = true ↔ v ∈ keys.take (k + 1) := by
  intro v
  rw [mem_take_succ hx]
  by_cases e : v = x
  · subst e
    rw [has_put_same hD (by simp [WideAt.IsKeyLit])]
    simp
  · rw [has_put_other (by simpa using e), h v]
    simp [e]

theorem ownsRow_low {w : World} {base base' : Nat} {e : TypeId} {size : Nat} {v : Value} {n : Nat} {xs : List Value} (h : w.ownsRow base e size v n xs) (hb : base' ≤ base) : w.ownsRow base' e size v n xs := by
  refine ⟨h.1, ?_⟩
  rcases h.2 with h2 | ⟨g, cap, cur, h1, h2, h3⟩
  · exact .inl h2
  · exact .inr ⟨g, cap, cur, h1, Nat.le_trans hb h2, h3⟩

/-- What ZZsortedNamesOf hands back: a slice of the call's own that holds, strictly ascending, just the texts of keys. -/
def NamesPost (keys : List Txt) (w : World) (e : Ending) (w' : World) : Prop :=
  ∃ (g cap : Nat) (ts : List Txt), e = .returned (.slice (some ⟨g, 0, none⟩) ts.length cap) ∧ Asc ts ∧ (∀ x, x ∈ ts ↔ x ∈ keys) ∧
      w'.ownsRow w.heap.size 9 1 (.slice (some ⟨g, 0, none⟩) ts.length cap) ts.length (ts.map encStr) ∧ Below w.heap.size w w'

set_option maxHeartbeats 1000000 in
theorem sorted_any (ao : Option Addr) (cap : Nat) (keys : List Txt) (w : World) (hR : Rd w.heap.size w ao keys) (hn : keys.length ≤ 4194304) (hl : ∀ x ∈ keys, x.length ≤ maxLen) :
    Calls Try.prog 5 #[.slice ao keys.length cap] w fun e w' => NamesPost keys w e w' := by
  have hmm : ∀ (w : World) (n : Int), (Instr.makeMap 26 (some (.int .i64 n))).run Try.prog w = .ok (.map (some w.heap.size)) (w.alloc (.map #[] 0)) := fun w n => by kernel_rfl
  go_enter Try.func5, Try.ntmps5
  go_wp2
  go_loopw [4] (fun a wr => ∃ (k : Nat) (D : DataW Unit), k ≤ keys.length ∧ a = .int .i64 k ∧ wr.ownsMap Try.prog 9 nilElem w.heap.size k D ∧ (∀ v : Txt, Maps.has D (.string v) = true ↔ v ∈ keys.take k) ∧ Below w.heap.size w wr)
    (fun a _ => keys.length - (intOf a).toNat)
  case atStart => exact ⟨0, .map [], by omega, rfl, World.ownsMap_made w _ _ _, by simp [Maps.has], (Below.refl _ _).alloc (Nat.le_refl _) _⟩
  case round =>
    obtain ⟨k, D, hk, rfl, hown, hh, hbel⟩ := hrel
    by_cases hlt : k < keys.length
    · obtain ⟨x, hx⟩ : ∃ x, keys[k]? = some x := ⟨_, List.getElem?_eq_getElem hlt⟩
      obtain ⟨g, off, rfl, hg, hcx⟩ := (hR.below hbel) k x hx
      have hxl : x.length ≤ maxLen := hl x (List.mem_of_getElem? hx)
      have hkey : keyOf Try.prog 9 (.string ⟨x.toArray⟩) = some (.string x) := by
        simpa using Go.WideMaps.keyOf_string_mk Try.underlying9 (s := ⟨x.toArray⟩) (by simpa [ByteArray.size] using hxl)
      have HX : Hid (keys[k]? = some x) := hx
      have HH : Hid (∀ v : Txt, Maps.has D (.string v) = true ↔ v ∈ keys.take k) := hh
      have HD : Hid (IsMap D) := by obtain ⟨es, clock, _, _, _, rfl⟩ := hown; exact ⟨_, rfl⟩
      clear hx hh hl
      go_wp2_with (first
        | (at_mapUpdate; refine wpList_mapUpdate_own _ rfl _ _ _ 26 rfl 9 20 law9 Try.underlying26 nilElem w.heap.size k D rfl hown (by unfold maxLen; omega) _ _ (.string x) rfl rfl hkey (.lit (.bool true)) [] rfl ?_; intro w1 hown1 hg1)
        | go_in)
      go_roundw
      case rel => exact ⟨k + 1, _, by omega, by go_num, hown1, has_step HD.out HH.out HX.out _, hbel.grown hg1 hbel.size (fun j hj => by cases hj; exact Nat.le_refl _)⟩
      case measure => simp [intOf]; omega
    · obtain rfl : k = keys.length := by omega
      have hc := names_any w.heap.size keys.length D wr hown (by omega)
      have HH : Hid (∀ v : Txt, Maps.has D (.string v) = true ↔ v ∈ keys) := fun v => by rw [hh v, List.take_length]
      clear hh hl
      go_wp2_with (first | (go_at_call 9; refine hc.mono ?_; rintro e w' ⟨g, cap, ss, rfl, hnd, hm, hrow, hb2⟩))
      go_ret
      refine ⟨g, cap, ss.mergeSort fun x y => decide (x ≤ y), by simp, asc_mergeSort hnd, fun x => ?_, ?_, hbel.trans (hb2.mono hbel.size)⟩
      · rw [mem_sorted_iff, hm x]; exact HH.out x
      · rw [List.length_mergeSort]
        exact ownsRow_low hrow hbel.size
end Go.Proofs.Qxb6613705a
