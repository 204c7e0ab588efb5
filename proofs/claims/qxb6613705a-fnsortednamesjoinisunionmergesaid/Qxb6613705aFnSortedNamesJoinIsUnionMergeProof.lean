/-
  THE PROOF OF 'Rows.FnSortedNamesJoinIsUnionMergeSaid': the row's step round the walk 'law_any' (Qxb6613705aLaw). The frame is the guide's own (howto/template/XProofs.lean; the shells' way for 'Below'), at two slices of strings.
-/
import Derived.Test.Qxb6613705aLaw
import Derived.OpenShut
import Derived.ShutString
import Derived.ChangeOld
import Derived.SliceStrings
namespace Go.Proofs.Qxb6613705a.fnSortedNamesJoinIsUnionMerge
open Go.ChangeShapes Go.WideShapes Go.ChangeAt Go.RowKit

theorem own : ownKnob Try.prog.godebug = none := by kernel_rfl
theorem laidOut : laidOutB Try.prog = true := by kernel_rfl

/-- What the walk is told of a slice of strings that came in: its texts. -/
def IsTexts (w : World) (a : Option Addr) (len : Nat) (xs : List Txt) : Prop :=
  xs.length = len ∧ Rd w.heap.size w a xs ∧ xs.length ≤ maxLen ∧ ∀ x ∈ xs, x.length ≤ maxLen

theorem texts_nil (w : World) : IsTexts w none 0 [] := ⟨rfl, fun i x hx => by simp at hx, by simp, by simp⟩

theorem texts_of {w : World} {a : Addr} {len cap : Nat} {ss : List ByteArray} (hl : len ≤ cap) (hm : cap ≤ maxLen) (hz : ss.length = cap)
    (hcell : ∀ i, i < ss.length → w.cell? (a.add i) = some (.string (ss.getD i ByteArray.empty))) (hws : ∀ s ∈ ss, s.size ≤ maxLen) :
    IsTexts w (some a) len ((ss.take len).map fun s => s.data.toList) := by
  have hlen : ((ss.take len).map fun s => s.data.toList).length = len := by simp; omega
  refine ⟨hlen, fun i x hx => ?_, by omega, fun x hx => ?_⟩
  · have hi : i < len := by rw [← hlen]; exact (List.getElem?_eq_some_iff.1 hx).1
    have hi2 : i < ss.length := by omega
    obtain ⟨b, off, spot⟩ := a
    have hc := hcell i hi2
    have hspot : spot = none := by simpa [Addr.add] using World.cell?_spot (hcell 0 (by omega))
    subst hspot
    rw [Go.WideShapes.add_plain] at hc
    refine ⟨b, off, rfl, ?_, ?_⟩
    · rcases Nat.lt_or_ge b w.heap.size with h | h
      · exact h
      · rw [World.cell?] at hc
        simp only [Array.getElem?_eq_none h] at hc
        cases hc
    · rw [hc]
      rw [List.getElem?_map, List.getElem?_take_of_lt hi, List.getElem?_eq_getElem hi2] at hx
      cases hx
      simp [List.getD, List.getElem?_eq_getElem hi2]
  · obtain ⟨s, hs, rfl⟩ := List.mem_map.1 hx
    have := hws s (List.mem_of_mem_take hs)
    rw [Array.length_toList]
    exact this

theorem walk (a0 : Option Addr) (len0 cap0 : Nat) (xs : List Txt) (a1 : Option Addr) (len1 cap1 : Nat) (ys : List Txt) (w : World) (w0 : IsTexts w a0 len0 xs) (w1 : IsTexts w a1 len1 ys) :
    Calls Try.prog 3 #[.slice a0 len0 cap0, .slice a1 len1 cap1] w fun e w' => e = .returned (.bool true) ∧ Below w.heap.size w w' := by
  obtain ⟨rfl, h1, h2, h3⟩ := w0
  obtain ⟨rfl, k1, k2, k3⟩ := w1
  exact law_any a0 a1 cap0 cap1 xs ys w h1 k1 h2 k2 h3 k3

set_option maxRecDepth 100000 in
theorem lifted (os : Os) (started : os.Started) (H : Type) (enc : TypeId × Value → H) :
    ReturnsInHanded {} Try.checked os 3 .any (Rows.fnSortedNamesJoinIsUnionMergeSpec.pre6 enc Try.prog Try.f3 Rows.fnSortedNamesJoinIsUnionMergeRow.domain false) (Rows.fnSortedNamesJoinIsUnionMergeSpec.post enc Try.prog Try.f3 false true false false) := by
  refine returnsInHanded_of_change (C := Try.checked) own started (by kernel_rfl) Try.func3
    (ChangeSpec.witness6 (enc := enc) (C := Try.checked) false ⟨#[], #[.slice none 0 0, .slice none 0 0], []⟩ 8 (by kernel_rfl) (by kernel_rfl) (by kernel_rfl) (by kernel_rfl)) ?_
  intro W base args ds gs before hval0 hW hcnd _
  have hval : ∀ (j : Nat) t v, Try.f3.params[j]? = some t → args[j]? = some v → Value.okWide Try.prog W .any base t v := hval0
  have hW' := hW
  obtain ⟨p, q, hA0, hV, rfl, hfz, hnd⟩ := hW
  have hA : DataW.TrodAll enc Try.prog W 0 (fun _ => true) true Try.f3.params.toList args.toList ds p := hA0
  rw [Try.params3] at hA hval
  obtain ⟨v0, vs0, d0, ds0, p0, q0, hargs, rfl, rfl, h0, r0⟩ := trodAll_cons hA
  obtain ⟨v1, vs1, d1, ds1, p1, q1, rfl, rfl, rfl, h1, r1⟩ := trodAll_cons r0
  obtain ⟨rfl, rfl, rfl⟩ := trodAll_nil r1
  obtain rfl : args = #[v0, v1] := by cases args; simp_all
  obtain ⟨rfl, rfl⟩ := trodVars_none hV
  obtain ⟨a0, len0, cap0, rfl⟩ := okWide_slice Try.underlying22 (hval 0 22 v0 rfl rfl)
  have k0 := h0
  have lt0 : ∀ x ∈ p0, x.block < W.heap.size := by obtain ⟨m, hm⟩ := k0; exact DataW.trod_lt m _ _ _ hm
  obtain ⟨z0, w0⟩ : ∃ xs, IsTexts W a0 len0 xs := by
    obtain ⟨fuel, hf⟩ := h0
    rcases open_strings Try.underlying22 Try.underlying9 (by kernel_rfl) hf with ⟨hcs, _⟩ | ⟨x, l, c, ss, hcs, _, hl, hm, hz, _, hcell, hws⟩
    · simp [Value.cells] at hcs
      obtain ⟨rfl, rfl, rfl⟩ := hcs
      exact ⟨[], texts_nil W⟩
    · simp [Value.cells] at hcs
      obtain ⟨rfl, rfl, rfl⟩ := hcs
      exact ⟨_, texts_of hl hm (by simpa using hz) hcell hws⟩
  obtain ⟨a1, len1, cap1, rfl⟩ := okWide_slice Try.underlying22 (hval 1 22 v1 rfl rfl)
  have k1 := h1
  have lt1 : ∀ x ∈ p1, x.block < W.heap.size := by obtain ⟨m, hm⟩ := k1; exact DataW.trod_lt m _ _ _ hm
  obtain ⟨z1, w1⟩ : ∃ xs, IsTexts W a1 len1 xs := by
    obtain ⟨fuel, hf⟩ := h1
    rcases open_strings Try.underlying22 Try.underlying9 (by kernel_rfl) hf with ⟨hcs, _⟩ | ⟨x, l, c, ss, hcs, _, hl, hm, hz, _, hcell, hws⟩
    · simp [Value.cells] at hcs
      obtain ⟨rfl, rfl, rfl⟩ := hcs
      exact ⟨[], texts_nil W⟩
    · simp [Value.cells] at hcs
      obtain ⟨rfl, rfl, rfl⟩ := hcs
      exact ⟨_, texts_of hl hm (by simpa using hz) hcell hws⟩
  clear hA0 hval0
  refine (walk a0 len0 cap0 z0 a1 len1 cap1 z1 W w0 w1).mono fun e W' ⟨he, bel⟩ => ?_
  subst he
  exact ⟨_, rfl, _, _, _, [], _, [], hW', trodAll_mk1 (shut_bool Try.underlying4 _), (trodAll_cons_mk (Below.trod laidOut (by kernel_rfl) (of_decide_eq_true (by kernel_rfl)) k0 bel lt0) (trodAll_cons_mk (Below.trod laidOut (by kernel_rfl) (of_decide_eq_true (by kernel_rfl)) k1 bel lt1) trodAll_mk0)), rfl, bel.frame _, fun h => by cases h⟩

theorem over : Rows.fnSortedNamesJoinIsUnionMergeRow.holds Try.pinned (OpenSpec.ofChange Rows.fnSortedNamesJoinIsUnionMergeSpec) :=
  OpenClaim.holds_of_wide 3 Try.f3 rfl rfl rfl rfl rfl rfl rfl ⟨rfl, rfl, rfl, rfl, rfl⟩ rfl rfl rfl rfl rfl (by kernel_rfl) Try.func3 (by kernel_rfl)
    (of_decide_eq_true (by kernel_rfl)) (by unfold Func.isWrapper; first | (rw [if_pos (by decide +kernel)]; kernel_rfl) | (rw [if_neg (by decide +kernel)]; exact ⟨rfl, rfl⟩))
    (fun os started H enc _ => lifted os started H enc)

/-- THE STATEMENT. -/
theorem proved : Rows.FnSortedNamesJoinIsUnionMergeSaid := over
#print axioms proved
end Go.Proofs.Qxb6613705a.fnSortedNamesJoinIsUnionMerge
