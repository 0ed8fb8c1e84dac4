/-
  DERIVED: THE SHELF's CONTRACTS AT THIS DUMP, IN PLAIN WORDS (tools/lay-plain.mjs out of 'Qxb6626507aFmtLays.lean', which tools/lay-shelf.mjs wrote): THE SAME DECLARATIONS UNDER THE SAME NAMES: 'import', 'namespace', 'open', 'def', 'theorem' AND NOTHING ELSE: no command of the shelf's: FOR A HAND-IN. Each laying: the table of numbers ('.._ren') and one theorem, a field a fact of the dump's own or the kernel's comparison; each contract: ONE APPLICATION.
-/
import Derived.Shelf.Sort.Plain
import Derived.Test.Qxb6626507aFmtProg
namespace Go.Proofs
open Go.Shelf
def Tryf.lays189_ren : Go.Shelf.Ren := ⟨fun | 189 => 16 | 125 => 20 | 257 => 19 | 128 => 30 | 129 => 31 | 294 => 21 | 295 => 22 | 296 => 23 | 297 => 24 | 298 => 25 | 299 => 26 | 216 => 27 | 300 => 28 | 301 => 29 | 328 => 32 | 329 => 33 | 330 => 34 | 331 => 35 | 332 => 36 | 215 => 37 | 343 => 38 | n => n, fun | 28 => 30 | 3 => 3 | 46 => 51 | 0 => 0 | 51 => 64 | 53 => 66 | 4 => 4 | 183 => 57 | 182 => 56 | 131 => 35 | 5 => 5 | 9 => 9 | 218 => 67 | 222 => 71 | 228 => 74 | 229 => 75 | n => n, fun | n => n⟩
theorem Tryf.lays189 : Go.Proofs.Lays.n189 Tryf.prog Tryf.lays189_ren := {
  mixed := by kernel_rfl
  f125 := Tryf.func20.trans (congrArg some (by kernel_rfl))
  f128 := Tryf.func30.trans (congrArg some (by kernel_rfl))
  f129 := Tryf.func31.trans (congrArg some (by kernel_rfl))
  f189 := Tryf.func16.trans (congrArg some (by kernel_rfl))
  f215 := Tryf.func37.trans (congrArg some (by kernel_rfl))
  f216 := Tryf.func27.trans (congrArg some (by kernel_rfl))
  f257 := Tryf.func19.trans (congrArg some (by kernel_rfl))
  f294 := Tryf.func21.trans (congrArg some (by kernel_rfl))
  f295 := Tryf.func22.trans (congrArg some (by kernel_rfl))
  f296 := Tryf.func23.trans (congrArg some (by kernel_rfl))
  f297 := Tryf.func24.trans (congrArg some (by kernel_rfl))
  f298 := Tryf.func25.trans (congrArg some (by kernel_rfl))
  f299 := Tryf.func26.trans (congrArg some (by kernel_rfl))
  f300 := Tryf.func28.trans (congrArg some (by kernel_rfl))
  f301 := Tryf.func29.trans (congrArg some (by kernel_rfl))
  f328 := Tryf.func32.trans (congrArg some (by kernel_rfl))
  f329 := Tryf.func33.trans (congrArg some (by kernel_rfl))
  f330 := Tryf.func34.trans (congrArg some (by kernel_rfl))
  f331 := Tryf.func35.trans (congrArg some (by kernel_rfl))
  f332 := Tryf.func36.trans (congrArg some (by kernel_rfl))
  f343 := Tryf.func38.trans (congrArg some (by kernel_rfl))
  t0 := Tryf.underlying0
  a0 := Tryf.isAgg0
  z0 := Tryf.sizeOf0
  v0 := Tryf.zeroValue0
  t3 := Tryf.underlying3
  a3 := Tryf.isAgg3
  z3 := Tryf.sizeOf3
  v3 := Tryf.zeroValue3
  t4 := Tryf.underlying4
  a4 := Tryf.isAgg4
  z4 := Tryf.sizeOf4
  v4 := Tryf.zeroValue4
  t5 := Tryf.underlying5
  a5 := Tryf.isAgg5
  z5 := Tryf.sizeOf5
  v5 := Tryf.zeroValue5
  t9 := Tryf.underlying9
  a9 := Tryf.isAgg9
  z9 := Tryf.sizeOf9
  v9 := Tryf.zeroValue9
  t28 := Tryf.underlying30
  a28 := Tryf.isAgg30
  z28 := Tryf.sizeOf30
  v28 := Tryf.zeroValue30
  t46 := Tryf.underlying51
  a46 := Tryf.isAgg51
  z46 := Tryf.sizeOf51
  v46 := Tryf.zeroValue51
  t51 := Tryf.underlying64
  a51 := Tryf.isAgg64
  z51 := Tryf.sizeOf64
  v51 := Tryf.zeroValue64
  t53 := Tryf.underlying66
  a53 := Tryf.isAgg66
  z53 := Tryf.sizeOf66
  v53 := Tryf.zeroValue66
  t131 := Tryf.underlying35
  a131 := Tryf.isAgg35
  z131 := Tryf.sizeOf35
  v131 := Tryf.zeroValue35
  t182 := Tryf.underlying56
  a182 := Tryf.isAgg56
  z182 := Tryf.sizeOf56
  v182 := Tryf.zeroValue56
  t183 := Tryf.underlying57
  a183 := Tryf.isAgg57
  z183 := Tryf.sizeOf57
  v183 := Tryf.zeroValue57
  t218 := Tryf.underlying67
  a218 := Tryf.isAgg67
  z218 := Tryf.sizeOf67
  v218 := Tryf.zeroValue67
  t222 := Tryf.underlying71
  a222 := Tryf.isAgg71
  z222 := Tryf.sizeOf71
  v222 := Tryf.zeroValue71
  t228 := Tryf.underlying74
  a228 := Tryf.isAgg74
  z228 := Tryf.sizeOf74
  v228 := Tryf.zeroValue74
  t229 := Tryf.underlying75
  a229 := Tryf.isAgg75
  z229 := Tryf.sizeOf75
  v229 := Tryf.zeroValue75 }
end Go.Proofs
