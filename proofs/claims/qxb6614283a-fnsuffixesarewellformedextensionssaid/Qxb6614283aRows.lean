/-
  No cell of these rows narrows 'for every input' (looked for: loops, veiled, ifaces, maps, wideKeys, modest, calm, conditions, laid).
  DERIVED. THE GIVEN ROWS OF THIS SEAT. 2 by the template 'for every input the law returns true; each argument reads behind the call as it read before'; 0 by the template 'total and deterministic' (their statements: Qxb6614283aTotals.lean).
  GIVEN WITH THE SEED: the statements are not yours to turn. If you find one false, say at which input.
  Laid BY PROGRAM, IN A SANDBOX (cutbox-rows.mjs): the forced cells as the released guide's own fill.sh prints them over the translation 2de0d88ff31ab5fd… (all of the seat's roots in one cut). By AI agents, Wed Nov 11 2026. No macro, syntax, notation, axiom, sorry.
-/
import Derived.Test.Qxb6614283aChecked
import GoSem.Claim
import GoSem.ClaimJoined
import GoSem.ClaimMapViews
import Derived.JoinedTies
import Derived.KernelRfl
namespace Go.Proofs.Qxb6614283a
/- THE CELL 'sum', in the pinned program and in every row, IS THE sha256 OF THE DUMP (.gsa) THAT Qxb6614283aProg.lean LOADS. Nothing in Lean hashes anything: it is a label: what it is worth is what the hold of that sum in a sandbox is worth. -/
noncomputable def Try.pinned : Pinned := { name := "qxb6614283a", sum := "2de0d88ff31ab5fd6927537581fed4bed3d28244cee4f2b343edef06c6ced925", checked := Try.checked }
namespace Rows
def none {H : Type} : Left H := { results := [], args := [] }

/-- 'zzlaws_pkg_archive_tgz_b1.FnSuffixesAreWellFormedExtensions': WHATEVER THE INPUT: true; the input reads as it did. -/
def fnSuffixesAreWellFormedExtensionsSpec : ChangeSpec := { name := "fnSuffixesAreWellFormedExtensions", fn := fun _ => fun
  | [] => { results := [.lit (.bool true)], args := [] }
  | _ => none }
def fnSuffixesAreWellFormedExtensionsRow : OpenClaim := { program := "qxb6614283a", sum := "2de0d88ff31ab5fd6927537581fed4bed3d28244cee4f2b343edef06c6ced925", func := "example.com/stowline/stowline/zzlaws_pkg_archive_tgz_b1.FnSuffixesAreWellFormedExtensions", spec := "fnSuffixesAreWellFormedExtensions", apart := false }
def FnSuffixesAreWellFormedExtensionsSaid : Prop := fnSuffixesAreWellFormedExtensionsRow.holds Try.pinned (OpenSpec.ofChange fnSuffixesAreWellFormedExtensionsSpec)

/-- ITS FALSE NEIGHBOUR: 'it returns false'. Refute it at one input. -/
def fnSuffixesAreWellFormedExtensionsWrong : ChangeSpec := { name := "fnSuffixesAreWellFormedExtensions", fn := fun _ => fun
  | [] => { results := [.lit (.bool false)], args := [] }
  | _ => none }
def FnSuffixesAreWellFormedExtensionsWrongFalsely : Prop := fnSuffixesAreWellFormedExtensionsRow.holds Try.pinned (OpenSpec.ofChange fnSuffixesAreWellFormedExtensionsWrong)

/-- 'zzlaws_pkg_archive_tgz_b1.FnSuffixesFreshAndStable': WHATEVER THE INPUT: true; the input reads as it did. -/
def fnSuffixesFreshAndStableSpec : ChangeSpec := { name := "fnSuffixesFreshAndStable", fn := fun _ => fun
  | [] => { results := [.lit (.bool true)], args := [] }
  | _ => none }
def fnSuffixesFreshAndStableRow : OpenClaim := { program := "qxb6614283a", sum := "2de0d88ff31ab5fd6927537581fed4bed3d28244cee4f2b343edef06c6ced925", func := "example.com/stowline/stowline/zzlaws_pkg_archive_tgz_b1.FnSuffixesFreshAndStable", spec := "fnSuffixesFreshAndStable", apart := false }
def FnSuffixesFreshAndStableSaid : Prop := fnSuffixesFreshAndStableRow.holds Try.pinned (OpenSpec.ofChange fnSuffixesFreshAndStableSpec)

/-- ITS FALSE NEIGHBOUR: 'it returns false'. Refute it at one input. -/
def fnSuffixesFreshAndStableWrong : ChangeSpec := { name := "fnSuffixesFreshAndStable", fn := fun _ => fun
  | [] => { results := [.lit (.bool false)], args := [] }
  | _ => none }
def FnSuffixesFreshAndStableWrongFalsely : Prop := fnSuffixesFreshAndStableRow.holds Try.pinned (OpenSpec.ofChange fnSuffixesFreshAndStableWrong)

end Rows
end Go.Proofs.Qxb6614283a
