/-
  No cell of these rows narrows 'for every input' (looked for: loops, veiled, ifaces, maps, wideKeys, modest, calm, conditions, laid).
  DERIVED. THE GIVEN ROWS OF THIS SEAT. 4 by the template 'for every input the law returns true; each argument reads behind the call as it read before'; 0 by the template 'total and deterministic' (their statements: Qxb6614139aTotals.lean).
  GIVEN WITH THE SEED: the statements are not yours to turn. If you find one false, say at which input.
  Laid BY PROGRAM, IN A SANDBOX (cutbox-rows.mjs): the forced cells as the released guide's own fill.sh prints them over the translation dccb04f10e0ef625… (all of the seat's roots in one cut). By AI agents, Wed Nov 11 2026. No macro, syntax, notation, axiom, sorry.
-/
import Derived.Test.Qxb6614139aChecked
import GoSem.Claim
import GoSem.ClaimJoined
import GoSem.ClaimMapViews
import Derived.JoinedTies
import Derived.KernelRfl
namespace Go.Proofs.Qxb6614139a
/- THE CELL 'sum', in the pinned program and in every row, IS THE sha256 OF THE DUMP (.gsa) THAT Qxb6614139aProg.lean LOADS. Nothing in Lean hashes anything: it is a label: what it is worth is what the hold of that sum in a sandbox is worth. -/
noncomputable def Try.pinned : Pinned := { name := "qxb6614139a", sum := "dccb04f10e0ef625a59b00ee5e7b9be2f30db23dddd95eb5a23c7dd558f19369", checked := Try.checked }
namespace Rows
def none {H : Type} : Left H := { results := [], args := [] }

/-- 'zzlaws_pkg_pack_b1.FnBucketTopBitsOfInvertibleMix': WHATEVER THE INPUT: true; the input reads as it did. -/
def fnBucketTopBitsOfInvertibleMixSpec : ChangeSpec := { name := "fnBucketTopBitsOfInvertibleMix", fn := fun _ => fun
  | [d1, d2] => { results := [.lit (.bool true)], args := [d1, d2] }
  | _ => none }
def fnBucketTopBitsOfInvertibleMixRow : OpenClaim := { program := "qxb6614139a", sum := "dccb04f10e0ef625a59b00ee5e7b9be2f30db23dddd95eb5a23c7dd558f19369", func := "example.com/plumbline/plumbline/zzlaws_pkg_pack_b1.FnBucketTopBitsOfInvertibleMix", spec := "fnBucketTopBitsOfInvertibleMix", plainKeys := false, apart := false }
def FnBucketTopBitsOfInvertibleMixSaid : Prop := fnBucketTopBitsOfInvertibleMixRow.holds Try.pinned (OpenSpec.ofChange fnBucketTopBitsOfInvertibleMixSpec)

/-- ITS FALSE NEIGHBOUR: 'it returns false'. Refute it at one input. -/
def fnBucketTopBitsOfInvertibleMixWrong : ChangeSpec := { name := "fnBucketTopBitsOfInvertibleMix", fn := fun _ => fun
  | [d1, d2] => { results := [.lit (.bool false)], args := [d1, d2] }
  | _ => none }
def FnBucketTopBitsOfInvertibleMixWrongFalsely : Prop := fnBucketTopBitsOfInvertibleMixRow.holds Try.pinned (OpenSpec.ofChange fnBucketTopBitsOfInvertibleMixWrong)

/-- 'zzlaws_pkg_pack_b1.FnBucketBoundedAndEveryBucketReached': WHATEVER THE INPUT: true; the input reads as it did. -/
def fnBucketBoundedAndEveryBucketReachedSpec : ChangeSpec := { name := "fnBucketBoundedAndEveryBucketReached", fn := fun _ => fun
  | [d1, d2, d3] => { results := [.lit (.bool true)], args := [d1, d2, d3] }
  | _ => none }
def fnBucketBoundedAndEveryBucketReachedRow : OpenClaim := { program := "qxb6614139a", sum := "dccb04f10e0ef625a59b00ee5e7b9be2f30db23dddd95eb5a23c7dd558f19369", func := "example.com/plumbline/plumbline/zzlaws_pkg_pack_b1.FnBucketBoundedAndEveryBucketReached", spec := "fnBucketBoundedAndEveryBucketReached", plainKeys := false, apart := false }
def FnBucketBoundedAndEveryBucketReachedSaid : Prop := fnBucketBoundedAndEveryBucketReachedRow.holds Try.pinned (OpenSpec.ofChange fnBucketBoundedAndEveryBucketReachedSpec)

/-- ITS FALSE NEIGHBOUR: 'it returns false'. Refute it at one input. -/
def fnBucketBoundedAndEveryBucketReachedWrong : ChangeSpec := { name := "fnBucketBoundedAndEveryBucketReached", fn := fun _ => fun
  | [d1, d2, d3] => { results := [.lit (.bool false)], args := [d1, d2, d3] }
  | _ => none }
def FnBucketBoundedAndEveryBucketReachedWrongFalsely : Prop := fnBucketBoundedAndEveryBucketReachedRow.holds Try.pinned (OpenSpec.ofChange fnBucketBoundedAndEveryBucketReachedWrong)

/-- 'zzlaws_pkg_pack_b1.FnGroupHeapSwapScriptPermutesAndKeepsPlaces': WHATEVER THE INPUT: true; the input reads as it did. -/
def fnGroupHeapSwapScriptPermutesAndKeepsPlacesSpec : ChangeSpec := { name := "fnGroupHeapSwapScriptPermutesAndKeepsPlaces", fn := fun _ => fun
  | [d1, d2, d3] => { results := [.lit (.bool true)], args := [d1, d2, d3] }
  | _ => none }
def fnGroupHeapSwapScriptPermutesAndKeepsPlacesRow : OpenClaim := { program := "qxb6614139a", sum := "dccb04f10e0ef625a59b00ee5e7b9be2f30db23dddd95eb5a23c7dd558f19369", func := "example.com/plumbline/plumbline/zzlaws_pkg_pack_b1.FnGroupHeapSwapScriptPermutesAndKeepsPlaces", spec := "fnGroupHeapSwapScriptPermutesAndKeepsPlaces", plainKeys := false, apart := false }
def FnGroupHeapSwapScriptPermutesAndKeepsPlacesSaid : Prop := fnGroupHeapSwapScriptPermutesAndKeepsPlacesRow.holds Try.pinned (OpenSpec.ofChange fnGroupHeapSwapScriptPermutesAndKeepsPlacesSpec)

/-- ITS FALSE NEIGHBOUR: 'it returns false'. Refute it at one input. -/
def fnGroupHeapSwapScriptPermutesAndKeepsPlacesWrong : ChangeSpec := { name := "fnGroupHeapSwapScriptPermutesAndKeepsPlaces", fn := fun _ => fun
  | [d1, d2, d3] => { results := [.lit (.bool false)], args := [d1, d2, d3] }
  | _ => none }
def FnGroupHeapSwapScriptPermutesAndKeepsPlacesWrongFalsely : Prop := fnGroupHeapSwapScriptPermutesAndKeepsPlacesRow.holds Try.pinned (OpenSpec.ofChange fnGroupHeapSwapScriptPermutesAndKeepsPlacesWrong)

/-- 'zzlaws_pkg_pack_b1.FnGroupHeapSwapUndoneBySwapBack': WHATEVER THE INPUT: true; the input reads as it did. -/
def fnGroupHeapSwapUndoneBySwapBackSpec : ChangeSpec := { name := "fnGroupHeapSwapUndoneBySwapBack", fn := fun _ => fun
  | [d1, d2, d3] => { results := [.lit (.bool true)], args := [d1, d2, d3] }
  | _ => none }
def fnGroupHeapSwapUndoneBySwapBackRow : OpenClaim := { program := "qxb6614139a", sum := "dccb04f10e0ef625a59b00ee5e7b9be2f30db23dddd95eb5a23c7dd558f19369", func := "example.com/plumbline/plumbline/zzlaws_pkg_pack_b1.FnGroupHeapSwapUndoneBySwapBack", spec := "fnGroupHeapSwapUndoneBySwapBack", plainKeys := false, apart := false }
def FnGroupHeapSwapUndoneBySwapBackSaid : Prop := fnGroupHeapSwapUndoneBySwapBackRow.holds Try.pinned (OpenSpec.ofChange fnGroupHeapSwapUndoneBySwapBackSpec)

/-- ITS FALSE NEIGHBOUR: 'it returns false'. Refute it at one input. -/
def fnGroupHeapSwapUndoneBySwapBackWrong : ChangeSpec := { name := "fnGroupHeapSwapUndoneBySwapBack", fn := fun _ => fun
  | [d1, d2, d3] => { results := [.lit (.bool false)], args := [d1, d2, d3] }
  | _ => none }
def FnGroupHeapSwapUndoneBySwapBackWrongFalsely : Prop := fnGroupHeapSwapUndoneBySwapBackRow.holds Try.pinned (OpenSpec.ofChange fnGroupHeapSwapUndoneBySwapBackWrong)

end Rows
end Go.Proofs.Qxb6614139a
