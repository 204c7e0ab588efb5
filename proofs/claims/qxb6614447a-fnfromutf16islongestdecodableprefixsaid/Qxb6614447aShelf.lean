/-
  DERIVED: THE SHELF's CONTRACTS AT THIS DUMP, IN PLAIN WORDS (tools/lay-plain.mjs out of 'Qxb6614447aShelf.lean', which tools/lay-shelf.mjs wrote): THE SAME DECLARATIONS UNDER THE SAME NAMES: 'import', 'namespace', 'open', 'def', 'theorem' AND NOTHING ELSE: no command of the shelf's: FOR A HAND-IN. Each laying: the table of numbers ('.._ren') and one theorem, a field a fact of the dump's own or the kernel's comparison; each contract: ONE APPLICATION.
-/
import Derived.Test.Qxb6614447aProg
import Derived.Shelf.Utf8.AppendRunePlain
import Derived.Shelf.Bin.BEUint16
import Derived.Shelf.Bin.LEUint16
namespace Go.Proofs
open Go.Shelf
def Try.lays242_ren : Go.Shelf.Ren := ⟨fun | 242 => 18 | 278 => 19 | n => n, fun | 37 => 22 | 21 => 21 | 51 => 41 | 4 => 4 | 5 => 5 | 46 => 31 | n => n, fun | n => n⟩
theorem Try.lays242 : Go.Proofs.Lays.n242 Try.prog Try.lays242_ren := {
  mixed := by kernel_rfl
  f242 := Try.func18.trans (congrArg some (by kernel_rfl))
  f278 := Try.func19.trans (congrArg some (by kernel_rfl))
  t4 := Try.underlying4
  a4 := Try.isAgg4
  z4 := Try.sizeOf4
  v4 := Try.zeroValue4
  t5 := Try.underlying5
  a5 := Try.isAgg5
  z5 := Try.sizeOf5
  v5 := Try.zeroValue5
  t21 := Try.underlying21
  a21 := Try.isAgg21
  z21 := Try.sizeOf21
  v21 := Try.zeroValue21
  t37 := Try.underlying22
  a37 := Try.isAgg22
  z37 := Try.sizeOf22
  v37 := Try.zeroValue22
  t46 := Try.underlying31
  a46 := Try.isAgg31
  z46 := Try.sizeOf31
  v46 := Try.zeroValue31
  t51 := Try.underlying41
  a51 := Try.isAgg41
  z51 := Try.sizeOf41
  v51 := Try.zeroValue41 }
def Try.lays36_ren : Go.Shelf.Ren := ⟨fun | 36 => 37 | n => n, fun | 37 => 29 | 22 => 22 | 23 => 36 | 0 => 0 | 5 => 5 | 45 => 31 | n => n, fun | n => n⟩
theorem Try.lays36 : Go.Proofs.LaysBin.n36 Try.prog Try.lays36_ren := {
  mixed := by kernel_rfl
  f36 := Try.func37.trans (congrArg some (by kernel_rfl))
  t0 := Try.underlying0
  a0 := Try.isAgg0
  z0 := Try.sizeOf0
  v0 := Try.zeroValue0
  i0 := by kernel_rfl
  t5 := Try.underlying5
  a5 := Try.isAgg5
  z5 := Try.sizeOf5
  v5 := Try.zeroValue5
  i5 := by kernel_rfl
  t22 := Try.underlying22
  a22 := Try.isAgg22
  z22 := Try.sizeOf22
  v22 := Try.zeroValue22
  i22 := by kernel_rfl
  t23 := Try.underlying36
  a23 := Try.isAgg36
  z23 := Try.sizeOf36
  v23 := Try.zeroValue36
  i23 := by kernel_rfl
  t37 := Try.underlying29
  a37 := Try.isAgg29
  z37 := Try.sizeOf29
  v37 := Try.zeroValue29
  i37 := by kernel_rfl
  t45 := Try.underlying31
  a45 := Try.isAgg31
  z45 := Try.sizeOf31
  v45 := Try.zeroValue31
  i45 := by kernel_rfl }
def Try.lays27_ren : Go.Shelf.Ren := ⟨fun | 27 => 40 | n => n, fun | 25 => 30 | 22 => 22 | 23 => 36 | 0 => 0 | 5 => 5 | 45 => 31 | n => n, fun | n => n⟩
theorem Try.lays27 : Go.Proofs.LaysBin.n27 Try.prog Try.lays27_ren := {
  mixed := by kernel_rfl
  f27 := Try.func40.trans (congrArg some (by kernel_rfl))
  t0 := Try.underlying0
  a0 := Try.isAgg0
  z0 := Try.sizeOf0
  v0 := Try.zeroValue0
  i0 := by kernel_rfl
  t5 := Try.underlying5
  a5 := Try.isAgg5
  z5 := Try.sizeOf5
  v5 := Try.zeroValue5
  i5 := by kernel_rfl
  t22 := Try.underlying22
  a22 := Try.isAgg22
  z22 := Try.sizeOf22
  v22 := Try.zeroValue22
  i22 := by kernel_rfl
  t23 := Try.underlying36
  a23 := Try.isAgg36
  z23 := Try.sizeOf36
  v23 := Try.zeroValue36
  i23 := by kernel_rfl
  t25 := Try.underlying30
  a25 := Try.isAgg30
  z25 := Try.sizeOf30
  v25 := Try.zeroValue30
  i25 := by kernel_rfl
  t45 := Try.underlying31
  a45 := Try.isAgg31
  z45 := Try.sizeOf31
  v45 := Try.zeroValue31
  i45 := by kernel_rfl }
end Go.Proofs
