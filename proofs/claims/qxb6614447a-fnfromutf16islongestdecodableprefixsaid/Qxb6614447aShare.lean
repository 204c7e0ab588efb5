/-
  ZZfromUTF16; and what the two laws share: the bytes of a row of the call's own, of a copy.
-/
import Derived.Test.Qxb6614447aFrom
namespace Go.Proofs.Qxb6614447a
open Go.RowKit

theorem zzfrom_any (ao : Option Addr) (n c : Nat) (f : Nat → Int) (big : Bool) (w : World) (hB : Byt w.heap.size w ao n f) (hn : n ≤ 4194304) (hc : n ≤ c) :
    Calls Try.prog 6 #[.slice ao n c, .bool big] w fun e w' => FromPost big f n w e w' := by
  cases big
  · have h := from_little ao n c f w hB hn hc
    go_enter Try.func6, Try.ntmps6
    go_wp2_with fail
    refine h.mono ?_
    rintro e w' ⟨v, rfl, ho, hb⟩
    go_wp2
    go_ret2
    exact ⟨v, rfl, ho, hb⟩
  · have h := from_big ao n c f w hB hn hc
    go_enter Try.func6, Try.ntmps6
    go_wp2_with fail
    refine h.mono ?_
    rintro e w' ⟨v, rfl, ho, hb⟩
    go_wp2
    go_ret2
    exact ⟨v, rfl, ho, hb⟩

/-- The bytes of a row of the call's own. -/
theorem own_form {w : World} {base : Nat} {v : Value} {L : List Int} (h : w.ownsRow base 5 1 v L.length (L.map (fun x => Value.int .u8 x))) (hL : ∀ x ∈ L, 0 ≤ x ∧ x ≤ 255) :
    ∃ ao cap, v = .slice ao L.length cap ∧ L.length ≤ cap ∧ Byt w.heap.size w ao L.length (fun k => L.getD k 0) := by
  rcases h.2 with ⟨rfl, h0⟩ | ⟨g, cap, cur, rfl, hb, hg, hn, hcap, hcs, ht⟩
  · rw [h0]
    exact ⟨none, 0, rfl, Nat.le_refl _, fun k hk => by omega⟩
  · refine ⟨some ⟨g, 0, none⟩, cap, rfl, hn, fun k hk => ⟨g, 0, rfl, (Array.getElem?_eq_some_iff.1 hg).1, ?_, ?_⟩⟩
    · rw [Nat.zero_add, h.cellAt k (by omega), List.getElem?_map]
      simp [hk]
    · have := hL (L.getD k 0) (by simp [List.getD, hk])
      exact this

theorem text_bytes (rs : List Int) : ∀ x ∈ textOf rs, 0 ≤ x ∧ x ≤ 255 := by
  intro x hx
  obtain ⟨r, _, hr⟩ := List.mem_flatMap.1 hx
  have := Lib.encodeRuneZ_byte r x hr
  omega

theorem splice_all {α : Type} (L cs : List α) (h : L.length = cs.length) : splice L 0 cs = cs := by
  unfold splice
  rw [Nat.zero_add, List.drop_eq_nil_of_le (by omega)]
  simp

/-- The first n bytes, as cells. -/
def cellsOf (f : Nat → Int) (n : Nat) : List Value := (List.range n).map (fun k => Value.int .u8 (f k))
theorem cellsOf_len (f : Nat → Int) (n : Nat) : (cellsOf f n).length = n := by simp [cellsOf]
theorem cellsOf_get {f : Nat → Int} {n k : Nat} (hk : k < n) : (cellsOf f n)[k]? = some (.int .u8 (f k)) := by simp [cellsOf, hk]
theorem cellsOf_one (f : Nat → Int) (n : Nat) : ∀ v ∈ cellsOf f n, v.oneCell' = true := by
  intro v hv
  obtain ⟨k, _, rfl⟩ := List.mem_map.1 hv
  rfl

theorem byt_of_block {w : World} {g n : Nat} {e : TypeId} {fr : Nat × Nat} {f : Nat → Int} (h : w.heap[g]? = some (.cells (cellsOf f n).toArray e fr)) (hf : ∀ k, k < n → 0 ≤ f k ∧ f k ≤ 255) : Byt w.heap.size w (some ⟨g, 0, none⟩) n f := by
  intro k hk
  refine ⟨g, 0, rfl, (Array.getElem?_eq_some_iff.1 h).1, ?_, hf k hk⟩
  rw [cell_of_row w g (0 + k) _ e fr h, Nat.zero_add]
  simpa using cellsOf_get hk

theorem src_of_byt {B : Nat} {w : World} {ao : Option Addr} {n : Nat} {f : Nat → Int} (h : Byt B w ao n f) : 0 < (cellsOf f n).length → ∃ ad, ao = some ad ∧ ∀ j v, (cellsOf f n)[j]? = some v → w.cell? (ad.add j) = some v := by
  intro h0
  rw [cellsOf_len] at h0
  obtain ⟨g, off, rfl, _, _⟩ := h 0 h0
  refine ⟨_, rfl, fun j v hv => ?_⟩
  have hj : j < n := by have := (List.getElem?_eq_some_iff.1 hv).1; rw [cellsOf_len] at this; exact this
  obtain ⟨g', off', e, _, hc, _⟩ := h j hj
  cases e
  rw [cellsOf_get hj] at hv
  cases hv
  have e2 : (⟨g, off, none⟩ : Addr).add j = ⟨g, off + j, none⟩ := by unfold Addr.add; split <;> simp_all
  rw [e2]
  exact hc

theorem made_len (z : Value) (n : Nat) : (madeCells z.cells (n * 1)).toList.length = n := by simp [madeCells]

end Go.Proofs.Qxb6614447a
