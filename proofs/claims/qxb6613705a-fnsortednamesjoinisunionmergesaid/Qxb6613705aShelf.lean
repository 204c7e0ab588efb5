/-
  DERIVED: THE SHELF's CONTRACTS AT THIS DUMP, IN PLAIN WORDS (tools/lay-plain.mjs out of 'Qxb6613705aShelf.lean', which tools/lay-shelf.mjs wrote): THE SAME DECLARATIONS UNDER THE SAME NAMES: 'import', 'namespace', 'open', 'def', 'theorem' AND NOTHING ELSE: no command of the shelf's: FOR A HAND-IN. Each laying: the table of numbers ('.._ren') and one theorem, a field a fact of the dump's own or the kernel's comparison; each contract: ONE APPLICATION.
-/
import Derived.Test.Qxb6613705aProg
import Derived.Shelf.Sort.AssemblysIn
namespace Go.Proofs
open Go.Shelf
def Try.lays190_ren : Go.Shelf.Ren := ⟨fun | 190 => 12 | 125 => 14 | 258 => 13 | 128 => 24 | 129 => 25 | 302 => 15 | 303 => 16 | 304 => 17 | 305 => 18 | 306 => 19 | 307 => 20 | 308 => 21 | 309 => 22 | 310 => 23 | 333 => 26 | 329 => 27 | 330 => 28 | 334 => 29 | 335 => 30 | 336 => 31 | 344 => 32 | n => n, fun | 31 => 22 | 9 => 9 | 3 => 3 | 46 => 34 | 0 => 0 | 51 => 45 | 53 => 47 | 4 => 4 | 183 => 37 | 182 => 36 | 131 => 42 | 5 => 5 | 218 => 48 | 222 => 52 | 228 => 55 | 229 => 56 | n => n, fun | n => n⟩
theorem Try.lays190 : Go.Proofs.Lays.n190 Try.prog Try.lays190_ren := {
  mixed := by kernel_rfl
  f125 := Try.func14.trans (congrArg some (by kernel_rfl))
  f128 := Try.func24.trans (congrArg some (by kernel_rfl))
  f129 := Try.func25.trans (congrArg some (by kernel_rfl))
  f190 := Try.func12.trans (congrArg some (by kernel_rfl))
  f258 := Try.func13.trans (congrArg some (by kernel_rfl))
  f302 := Try.func15.trans (congrArg some (by kernel_rfl))
  f303 := Try.func16.trans (congrArg some (by kernel_rfl))
  f304 := Try.func17.trans (congrArg some (by kernel_rfl))
  f305 := Try.func18.trans (congrArg some (by kernel_rfl))
  f306 := Try.func19.trans (congrArg some (by kernel_rfl))
  f307 := Try.func20.trans (congrArg some (by kernel_rfl))
  f308 := Try.func21.trans (congrArg some (by kernel_rfl))
  f309 := Try.func22.trans (congrArg some (by kernel_rfl))
  f310 := Try.func23.trans (congrArg some (by kernel_rfl))
  f329 := Try.func27.trans (congrArg some (by kernel_rfl))
  f330 := Try.func28.trans (congrArg some (by kernel_rfl))
  f333 := Try.func26.trans (congrArg some (by kernel_rfl))
  f334 := Try.func29.trans (congrArg some (by kernel_rfl))
  f335 := Try.func30.trans (congrArg some (by kernel_rfl))
  f336 := Try.func31.trans (congrArg some (by kernel_rfl))
  f344 := Try.func32.trans (congrArg some (by kernel_rfl))
  t0 := Try.underlying0
  a0 := Try.isAgg0
  z0 := Try.sizeOf0
  v0 := Try.zeroValue0
  t3 := Try.underlying3
  a3 := Try.isAgg3
  z3 := Try.sizeOf3
  v3 := Try.zeroValue3
  t4 := Try.underlying4
  a4 := Try.isAgg4
  z4 := Try.sizeOf4
  v4 := Try.zeroValue4
  t5 := Try.underlying5
  a5 := Try.isAgg5
  z5 := Try.sizeOf5
  v5 := Try.zeroValue5
  t9 := Try.underlying9
  a9 := Try.isAgg9
  z9 := Try.sizeOf9
  v9 := Try.zeroValue9
  t31 := Try.underlying22
  a31 := Try.isAgg22
  z31 := Try.sizeOf22
  v31 := Try.zeroValue22
  t46 := Try.underlying34
  a46 := Try.isAgg34
  z46 := Try.sizeOf34
  v46 := Try.zeroValue34
  t51 := Try.underlying45
  a51 := Try.isAgg45
  z51 := Try.sizeOf45
  v51 := Try.zeroValue45
  t53 := Try.underlying47
  a53 := Try.isAgg47
  z53 := Try.sizeOf47
  v53 := Try.zeroValue47
  t131 := Try.underlying42
  a131 := Try.isAgg42
  z131 := Try.sizeOf42
  v131 := Try.zeroValue42
  t182 := Try.underlying36
  a182 := Try.isAgg36
  z182 := Try.sizeOf36
  v182 := Try.zeroValue36
  t183 := Try.underlying37
  a183 := Try.isAgg37
  z183 := Try.sizeOf37
  v183 := Try.zeroValue37
  t218 := Try.underlying48
  a218 := Try.isAgg48
  z218 := Try.sizeOf48
  v218 := Try.zeroValue48
  t222 := Try.underlying52
  a222 := Try.isAgg52
  z222 := Try.sizeOf52
  v222 := Try.zeroValue52
  t228 := Try.underlying55
  a228 := Try.isAgg55
  z228 := Try.sizeOf55
  v228 := Try.zeroValue55
  t229 := Try.underlying56
  a229 := Try.isAgg56
  z229 := Try.sizeOf56
  v229 := Try.zeroValue56 }
end Go.Proofs
