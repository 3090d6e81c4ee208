/-
  DERIVED: THE SHELF's CONTRACTS AT THIS DUMP, IN PLAIN WORDS (tools/lay-plain.mjs out of 'TrydShelf.lean', which tools/lay-shelf.mjs wrote): THE SAME DECLARATIONS UNDER THE SAME NAMES: 'import', 'namespace', 'open', 'def', 'theorem' AND NOTHING ELSE: no command of the shelf's: FOR A HAND-IN. Each laying: the table of numbers ('.._ren') and one theorem, a field a fact of the dump's own or the kernel's comparison; each contract: ONE APPLICATION.
-/
import Derived.Shelf.Strconv.Itoa0
import Derived.Shelf.Strconv.Itoa1
import Derived.Shelf.LaysM
import Derived.Shelf.Strconv.Itoa2
import Derived.Shelf.Strconv.AppendUint10
import Derived.Shelf.Strconv.AppendInt10
import Derived.Shelf.Strconv.AppendIntPublic10
import Derived.Test.Qxb6605687aDoorProg
namespace Go.Proofs
open Go.Shelf
def Tryd.laysM176_ren : Go.Shelf.Ren := ⟨fun | 176 => 39 | 249 => 49 | 288 => 56 | 283 => 72 | 284 => 73 | 285 => 74 | 286 => 75 | 129 => 81 | 317 => 84 | 318 => 94 | 319 => 95 | 320 => 96 | 337 => 114 | 338 => 115 | n => n, fun | 37 => 24 | 2 => 2 | 3 => 3 | 53 => 62 | 4 => 4 | 9 => 9 | 171 => 107 | 0 => 0 | 173 => 110 | 212 => 130 | 51 => 112 | 5 => 5 | 20 => 20 | 213 => 131 | 46 => 56 | 232 => 64 | 233 => 159 | n => n, fun | 17 => 5 | 18 => 11 | 19 => 12 | n => n⟩
theorem Tryd.laysM176 : Go.Proofs.LaysM.n176 Tryd.prog Tryd.laysM176_ren := {
  mixed := by kernel_rfl
  f129 := Tryd.func81.trans (congrArg some (by kernel_rfl))
  f176 := Tryd.func39.trans (congrArg some (by kernel_rfl))
  f249 := Tryd.func49.trans (congrArg some (by kernel_rfl))
  f283 := Tryd.func72.trans (congrArg some (by kernel_rfl))
  f284 := Tryd.func73.trans (congrArg some (by kernel_rfl))
  f285 := Tryd.func74.trans (congrArg some (by kernel_rfl))
  f286 := Tryd.func75.trans (congrArg some (by kernel_rfl))
  f288 := Tryd.func56.trans (congrArg some (by kernel_rfl))
  f317 := Tryd.func84.trans (congrArg some (by kernel_rfl))
  f318 := Tryd.func94.trans (congrArg some (by kernel_rfl))
  f319 := Tryd.func95.trans (congrArg some (by kernel_rfl))
  f320 := Tryd.func96.trans (congrArg some (by kernel_rfl))
  f337 := Tryd.func114.trans (congrArg some (by kernel_rfl))
  f338 := Tryd.func115.trans (congrArg some (by kernel_rfl))
  t0 := Tryd.underlying0
  a0 := Tryd.isAgg0
  z0 := Tryd.sizeOf0
  v0 := Tryd.zeroValue0
  t2 := Tryd.underlying2
  a2 := Tryd.isAgg2
  z2 := Tryd.sizeOf2
  v2 := Tryd.zeroValue2
  t3 := Tryd.underlying3
  a3 := Tryd.isAgg3
  z3 := Tryd.sizeOf3
  v3 := Tryd.zeroValue3
  t4 := Tryd.underlying4
  a4 := Tryd.isAgg4
  z4 := Tryd.sizeOf4
  v4 := Tryd.zeroValue4
  t5 := Tryd.underlying5
  a5 := Tryd.isAgg5
  z5 := Tryd.sizeOf5
  v5 := Tryd.zeroValue5
  t9 := Tryd.underlying9
  a9 := Tryd.isAgg9
  z9 := Tryd.sizeOf9
  v9 := Tryd.zeroValue9
  t20 := Tryd.underlying20
  a20 := Tryd.isAgg20
  z20 := Tryd.sizeOf20
  v20 := Tryd.zeroValue20
  t37 := Tryd.underlying24
  a37 := Tryd.isAgg24
  z37 := Tryd.sizeOf24
  v37 := Tryd.zeroValue24
  t46 := Tryd.underlying56
  a46 := Tryd.isAgg56
  z46 := Tryd.sizeOf56
  v46 := Tryd.zeroValue56
  t51 := Tryd.underlying112
  a51 := Tryd.isAgg112
  z51 := Tryd.sizeOf112
  v51 := Tryd.zeroValue112
  t53 := Tryd.underlying62
  a53 := Tryd.isAgg62
  z53 := Tryd.sizeOf62
  v53 := Tryd.zeroValue62
  t171 := Tryd.underlying107
  a171 := Tryd.isAgg107
  z171 := Tryd.sizeOf107
  v171 := Tryd.zeroValue107
  t173 := Tryd.underlying110
  a173 := Tryd.isAgg110
  z173 := Tryd.sizeOf110
  v173 := Tryd.zeroValue110
  t212 := Tryd.underlying130
  a212 := Tryd.isAgg130
  z212 := Tryd.sizeOf130
  v212 := Tryd.zeroValue130
  t213 := Tryd.underlying131
  a213 := Tryd.isAgg131
  z213 := Tryd.sizeOf131
  t232 := Tryd.underlying64
  a232 := Tryd.isAgg64
  z232 := Tryd.sizeOf64
  v232 := Tryd.zeroValue64
  t233 := Tryd.underlying159
  a233 := Tryd.isAgg159
  z233 := Tryd.sizeOf159
  v233 := Tryd.zeroValue159
  g17 := by kernel_rfl
  g18 := by kernel_rfl
  g19 := by kernel_rfl
  i0 := by kernel_rfl
  i2 := by kernel_rfl
  i3 := by kernel_rfl
  i4 := by kernel_rfl
  i5 := by kernel_rfl
  i9 := by kernel_rfl
  i20 := by kernel_rfl
  i37 := by kernel_rfl
  i46 := by kernel_rfl
  i51 := by kernel_rfl
  i53 := by kernel_rfl
  i171 := by kernel_rfl
  i173 := by kernel_rfl
  i212 := by kernel_rfl
  i232 := by kernel_rfl
  i233 := by kernel_rfl
  m17 := by kernel_rfl
  m18 := by kernel_rfl
  m19 := by kernel_rfl }
end Go.Proofs
