/-
  No cell of these rows narrows 'for every input' (looked for: loops, veiled, ifaces, maps, wideKeys, modest, calm, conditions, laid).
  DERIVED. THE GIVEN ROWS OF THIS SEAT. 2 by the template 'for every input the law returns true; each argument reads behind the call as it read before'; 0 by the template 'total and deterministic' (their statements: Qxb6614447aTotals.lean).
  GIVEN WITH THE SEED: the statements are not yours to turn. If you find one false, say at which input.
  Laid BY PROGRAM, IN A SANDBOX (cutbox-rows.mjs): the forced cells as the released guide's own fill.sh prints them over the translation d115eab9e806f9a7… (all of the seat's roots in one cut). By AI agents, Wed Nov 11 2026. No macro, syntax, notation, axiom, sorry.
-/
import Derived.Test.Qxb6614447aChecked
import GoSem.Claim
import GoSem.ClaimJoined
import GoSem.ClaimMapViews
import Derived.JoinedTies
import Derived.KernelRfl
namespace Go.Proofs.Qxb6614447a
/- THE CELL 'sum', in the pinned program and in every row, IS THE sha256 OF THE DUMP (.gsa) THAT Qxb6614447aProg.lean LOADS. Nothing in Lean hashes anything: it is a label: what it is worth is what the hold of that sum in a sandbox is worth. -/
noncomputable def Try.pinned : Pinned := { name := "qxb6614447a", sum := "d115eab9e806f9a7e0d5913764fc67e54b10d9f9dc9ec22d9caca7e62e6007b0", checked := Try.checked }
namespace Rows
def none {H : Type} : Left H := { results := [], args := [] }

/-- 'zzlaws_internal_yamlfile_b1.FnFromUTF16IsLongestDecodablePrefix': WHATEVER THE INPUT: true; the input reads as it did. -/
def fnFromUTF16IsLongestDecodablePrefixSpec : ChangeSpec := { name := "fnFromUTF16IsLongestDecodablePrefix", fn := fun _ => fun
  | [d1, d2] => { results := [.lit (.bool true)], args := [d1, d2] }
  | _ => none }
def fnFromUTF16IsLongestDecodablePrefixRow : OpenClaim := { program := "qxb6614447a", sum := "d115eab9e806f9a7e0d5913764fc67e54b10d9f9dc9ec22d9caca7e62e6007b0", func := "example.com/vestledger/vestledger/zzlaws_internal_yamlfile_b1.FnFromUTF16IsLongestDecodablePrefix", spec := "fnFromUTF16IsLongestDecodablePrefix", unfollowed := true, recurses := true, named := ["encoding/binary.BigEndian", "encoding/binary.LittleEndian"], apart := false }
def FnFromUTF16IsLongestDecodablePrefixSaid : Prop := fnFromUTF16IsLongestDecodablePrefixRow.holds Try.pinned (OpenSpec.ofChange fnFromUTF16IsLongestDecodablePrefixSpec)

/-- ITS FALSE NEIGHBOUR: 'it returns false'. Refute it at one input. -/
def fnFromUTF16IsLongestDecodablePrefixWrong : ChangeSpec := { name := "fnFromUTF16IsLongestDecodablePrefix", fn := fun _ => fun
  | [d1, d2] => { results := [.lit (.bool false)], args := [d1, d2] }
  | _ => none }
def FnFromUTF16IsLongestDecodablePrefixWrongFalsely : Prop := fnFromUTF16IsLongestDecodablePrefixRow.holds Try.pinned (OpenSpec.ofChange fnFromUTF16IsLongestDecodablePrefixWrong)

/-- 'zzlaws_internal_yamlfile_b1.FnFromUTF16ByteOrderSwapAndPairing': WHATEVER THE INPUT: true; the input reads as it did. -/
def fnFromUTF16ByteOrderSwapAndPairingSpec : ChangeSpec := { name := "fnFromUTF16ByteOrderSwapAndPairing", fn := fun _ => fun
  | [d1, d2] => { results := [.lit (.bool true)], args := [d1, d2] }
  | _ => none }
def fnFromUTF16ByteOrderSwapAndPairingRow : OpenClaim := { program := "qxb6614447a", sum := "d115eab9e806f9a7e0d5913764fc67e54b10d9f9dc9ec22d9caca7e62e6007b0", func := "example.com/vestledger/vestledger/zzlaws_internal_yamlfile_b1.FnFromUTF16ByteOrderSwapAndPairing", spec := "fnFromUTF16ByteOrderSwapAndPairing", unfollowed := true, recurses := true, named := ["encoding/binary.BigEndian", "encoding/binary.LittleEndian"], apart := false }
def FnFromUTF16ByteOrderSwapAndPairingSaid : Prop := fnFromUTF16ByteOrderSwapAndPairingRow.holds Try.pinned (OpenSpec.ofChange fnFromUTF16ByteOrderSwapAndPairingSpec)

/-- ITS FALSE NEIGHBOUR: 'it returns false'. Refute it at one input. -/
def fnFromUTF16ByteOrderSwapAndPairingWrong : ChangeSpec := { name := "fnFromUTF16ByteOrderSwapAndPairing", fn := fun _ => fun
  | [d1, d2] => { results := [.lit (.bool false)], args := [d1, d2] }
  | _ => none }
def FnFromUTF16ByteOrderSwapAndPairingWrongFalsely : Prop := fnFromUTF16ByteOrderSwapAndPairingRow.holds Try.pinned (OpenSpec.ofChange fnFromUTF16ByteOrderSwapAndPairingWrong)

end Rows
end Go.Proofs.Qxb6614447a
