import Derived.Test.Qxb6613705aUnion
namespace Go.Proofs.Qxb6613705a
open Go.RowKit
theorem info4 : (Try.prog.info? 4).map (fun i => (i.zero, i.size, i.bytes)) = some (some (.bool false), 1, 1) := by kernel_rfl

theorem made_bools (n : Nat) : (madeCells (Value.bool false).cells (n * 1)).toList = (List.replicate n false).map Value.bool := by
  apply List.ext_getElem (by simp [madeCells])
  intro i h1 h2
  have e : i % 1 = 0 := Nat.mod_one i
  simp [madeCells, Value.cells, e]

theorem set_bools (bs : List Bool) (j : Nat) (b : Bool) : (bs.map Value.bool).set j (.bool b) = (bs.set j b).map Value.bool := by
  rw [List.map_set]

theorem Asc.inj {l : List Txt} (h : Asc l) {i j : Nat} {a : Txt} (hi : l[i]? = some a) (hj : l[j]? = some a) : i = j := by
  rcases Nat.lt_trichotomy i j with h1 | h1 | h1
  · exact absurd (h.lt hi hj h1) (txt_irrefl _)
  · exact h1
  · exact absurd (h.lt hj hi h1) (txt_irrefl _)

/-- One more key has been seen. -/
theorem seen_step {ss keys : List Txt} {bs : List Bool} {k j : Nat} {x : Txt} (hA : Asc ss) (hl : bs.length = ss.length) (hb : ∀ (t : Nat) (x : Txt), ss[t]? = some x → x ∈ keys.take k → bs[t]? = some true) (hx : keys[k]? = some x) (hj : ss[j]? = some x) :
    ∀ (t : Nat) (y : Txt), ss[t]? = some y → y ∈ keys.take (k + 1) → (bs.set j true)[t]? = some true := by
  intro t y ht hy
  have htl : t < ss.length := (List.getElem?_eq_some_iff.1 ht).1
  by_cases e : j = t
  · subst e
    rw [List.getElem?_set_self (by omega)]
  · rw [List.getElem?_set_ne e]
    rcases (mem_take_succ hx y).1 hy with h | rfl
    · exact hb t y ht h
    · exact absurd (hA.inj hj ht) e

set_option maxHeartbeats 1000000 in
/-- sameSet at a strictly ascending list that holds just the texts of keys: true. -/
theorem same_any (ao bo : Option Addr) (cap cap' : Nat) (ss keys : List Txt) (w : World) (hR : Rd w.heap.size w ao ss) (hS : Rd w.heap.size w bo keys) (hA : Asc ss) (hm : ∀ x, x ∈ ss ↔ x ∈ keys) (hn : ss.length ≤ 4194304) (hk : keys.length ≤ 4194304) :
    Calls Try.prog 6 #[.slice ao ss.length cap, .slice bo keys.length cap'] w fun e w' => e = .returned (.bool true) ∧ Below w.heap.size w w' := by
  obtain ⟨i0, hi, hz0, hz1, hz2⟩ := info_parts info4
  have hle : ss.length ≤ keys.length := nodup_le _ _ hA.nodup (fun x hx => (hm x).1 hx)
  go_enter Try.func6, Try.ntmps6
  go_wp2_with (first
    | (go_at_call 10; refine (ascending_any w.heap.size _ _ ss _ hR hA hn).mono ?_; rintro e w' ⟨rfl, q, rfl⟩)
    | (at_make; refine wpList_make_full _ rfl _ _ 29 rfl w.heap.size 4 i0 (.bool false) 1 Try.underlying29 hi hz0 hz1 _ _ _ _ ss.length rfl rfl rfl rfl (by rw [hz2]; omega) (by unfold maxLen; omega) (by exact Nat.le_refl _) ?_; intro w1 hrow1 hg1))
  rw [made_bools] at hrow1
  go_loopw [6] (fun a wr => ∃ (k : Nat) (bs : List Bool), k ≤ keys.length ∧ a = .int .i64 k ∧ bs.length = ss.length ∧ (∀ (t : Nat) (x : Txt), ss[t]? = some x → x ∈ keys.take k → bs[t]? = some true) ∧
      wr.ownsRow w.heap.size 4 1 (.slice (some ⟨w.heap.size, 0, none⟩) ss.length ss.length) ss.length (bs.map Value.bool) ∧ Below w.heap.size w wr)
    (fun a _ => keys.length - (intOf a).toNat)
  case atStart => exact ⟨0, List.replicate ss.length false, by omega, rfl, by simp, by simp, hrow1, (below_drewN (Below.refl _ _) q).grown hg1 (Nat.le_refl _) (fun j hj => by cases hj)⟩
  case round =>
    obtain ⟨k, bs, hkl, rfl, hbl, hbs, hown, hbel⟩ := hrel
    by_cases hlt : k < keys.length
    · obtain ⟨x, hx⟩ : ∃ x, keys[k]? = some x := ⟨_, List.getElem?_eq_getElem hlt⟩
      obtain ⟨g, off, rfl, hg, hcx⟩ := (hS.below hbel) k x hx
      obtain ⟨j, hj⟩ := List.getElem?_of_mem ((hm x).2 (List.mem_of_getElem? hx))
      have hjl : j < ss.length := (List.getElem?_eq_some_iff.1 hj).1
      obtain ⟨b, hb⟩ : ∃ b, bs[j]? = some b := ⟨_, List.getElem?_eq_getElem (by omega)⟩
      have hcb : wr.cell? ⟨w.heap.size, j, none⟩ = some (.bool b) := by rw [hown.cellAt j (by omega), List.getElem?_map, hb]; rfl
      have hfb : wr.frozen? ⟨w.heap.size, j, none⟩ = false := hown.frozenAt j
      have hst := hown.stored j (.bool true)
      rw [set_bools] at hst
      have HST : Hid _ := hst
      have HB : Hid (∀ (t : Nat) (x : Txt), ss[t]? = some x → x ∈ keys.take k → bs[t]? = some true) := hbs
      have HX : Hid (keys[k]? = some x) := hx
      have HJ : Hid (ss[j]? = some x) := hj
      have HBL : Hid (bs.length = ss.length) := hbl
      have hfind := find_any w.heap.size ao cap ss j x wr (hR.below hbel) hA hn hj
      clear hst hbs hx hj hb hbl hrow1
      go_wp2_with (first | (go_at_call 11; refine hfind.mono ?_; rintro e w' ⟨rfl, rfl⟩))
      go_roundw
      case rel => exact ⟨k + 1, bs.set j true, by omega, by go_num, by rw [List.length_set]; exact HBL.out, seen_step hA HBL.out HB.out HX.out HJ.out, HST.out.1, hbel.setCell (Nat.le_refl _) _⟩
      case measure => simp [intOf]; omega
    · obtain rfl : k = keys.length := by omega
      have hall : ∀ t, t < ss.length → bs[t]? = some true := fun t ht => by
        refine hbs t _ (List.getElem?_eq_getElem ht) ?_
        rw [List.take_length]
        exact (hm _).1 (List.getElem_mem ht)
      have hcb : ∀ t, t < ss.length → wr.cell? ⟨w.heap.size, t, none⟩ = some (.bool true) := fun t ht => by rw [hown.cellAt t (by omega), List.getElem?_map, hall t ht]; rfl
      clear hbs hbl hrow1 hall
      go_wp2
      go_loopw [8] (fun a wr' => ∃ (k : Nat), k ≤ ss.length ∧ a = .int .i64 k ∧ wr' = wr) (fun a _ => ss.length - (intOf a).toNat)
      case atStart => exact ⟨0, by omega, rfl, rfl⟩
      case round =>
        obtain ⟨k, hkl, rfl, rfl⟩ := hrel
        by_cases hlt : k < ss.length
        · have hc := hcb k hlt
          clear hcb
          go_wp2
          go_roundw
          case rel => exact ⟨k + 1, by omega, by go_num, by simp⟩
          case measure => simp [intOf]; omega
        · clear hcb
          go_wp2
          go_ret
          exact ⟨rfl, hbel⟩
end Go.Proofs.Qxb6613705a
