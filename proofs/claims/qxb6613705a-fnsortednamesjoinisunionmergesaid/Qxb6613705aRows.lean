/-
  No cell of these rows narrows 'for every input' (looked for: loops, veiled, ifaces, maps, wideKeys, modest, calm, conditions, laid).
  DERIVED. THE GIVEN ROWS OF THIS SEAT. 1 by the template 'for every input the law returns true; each argument reads behind the call as it read before'; 0 by the template 'total and deterministic' (their statements: Qxb6613705aTotals.lean).
  GIVEN WITH THE SEED: the statements are not yours to turn. If you find one false, say at which input.
  Laid BY PROGRAM, IN A SANDBOX (cutbox-rows.mjs): the forced cells as the released guide's own fill.sh prints them over the translation b57cb40155d4864c… (all of the seat's roots in one cut). By AI agents, Wed Nov 11 2026. No macro, syntax, notation, axiom, sorry.
-/
import Derived.Test.Qxb6613705aChecked
import GoSem.Claim
import GoSem.ClaimJoined
import GoSem.ClaimMapViews
import Derived.JoinedTies
import Derived.KernelRfl
namespace Go.Proofs.Qxb6613705a
/- THE CELL 'sum', in the pinned program and in every row, IS THE sha256 OF THE DUMP (.gsa) THAT Qxb6613705aProg.lean LOADS. Nothing in Lean hashes anything: it is a label: what it is worth is what the hold of that sum in a sandbox is worth. -/
noncomputable def Try.pinned : Pinned := { name := "qxb6613705a", sum := "b57cb40155d4864c8e36a04decac97cdcfba19afabc11b986bb5d0447aa9230e", checked := Try.checked }
namespace Rows
def none {H : Type} : Left H := { results := [], args := [] }

/-- 'zzlaws_table_b1.FnSortedNamesJoinIsUnionMerge': WHATEVER THE INPUT: true; the input reads as it did. -/
def fnSortedNamesJoinIsUnionMergeSpec : ChangeSpec := { name := "fnSortedNamesJoinIsUnionMerge", fn := fun _ => fun
  | [d1, d2] => { results := [.lit (.bool true)], args := [d1, d2] }
  | _ => none }
def fnSortedNamesJoinIsUnionMergeRow : OpenClaim := { program := "qxb6613705a", sum := "b57cb40155d4864c8e36a04decac97cdcfba19afabc11b986bb5d0447aa9230e", func := "example.com/pressrun/pressrun/zzlaws_table_b1.FnSortedNamesJoinIsUnionMerge", spec := "fnSortedNamesJoinIsUnionMerge", recurses := true, apart := false }
def FnSortedNamesJoinIsUnionMergeSaid : Prop := fnSortedNamesJoinIsUnionMergeRow.holds Try.pinned (OpenSpec.ofChange fnSortedNamesJoinIsUnionMergeSpec)

/-- ITS FALSE NEIGHBOUR: 'it returns false'. Refute it at one input. -/
def fnSortedNamesJoinIsUnionMergeWrong : ChangeSpec := { name := "fnSortedNamesJoinIsUnionMerge", fn := fun _ => fun
  | [d1, d2] => { results := [.lit (.bool false)], args := [d1, d2] }
  | _ => none }
def FnSortedNamesJoinIsUnionMergeWrongFalsely : Prop := fnSortedNamesJoinIsUnionMergeRow.holds Try.pinned (OpenSpec.ofChange fnSortedNamesJoinIsUnionMergeWrong)

end Rows
end Go.Proofs.Qxb6613705a
