/-
  DERIVED: THE SHELF's CONTRACTS AT THIS DUMP, IN PLAIN WORDS (tools/lay-plain.mjs out of 'YbulkchpkSort0.lean', which tools/lay-shelf.mjs wrote): THE SAME DECLARATIONS UNDER THE SAME NAMES: 'import', 'namespace', 'open', 'def', 'theorem' AND NOTHING ELSE: no command of the shelf's: FOR A HAND-IN. Each laying: the table of numbers ('.._ren') and one theorem, a field a fact of the dump's own or the kernel's comparison; each contract: ONE APPLICATION.
-/
import Derived.Shelf.SlGeneric
import Derived.Shelf.SortM.Plain
import Derived.Test.YbulkchpkRows
namespace Go.Proofs
open Go.Shelf
def Yba.sort5_ren : Go.Shelf.Ren := ⟨fun | 5 => 12 | 8 => 27 | 7 => 26 | 19 => 39 | 20 => 40 | 10 => 30 | 11 => 31 | 12 => 32 | 13 => 33 | 14 => 34 | 15 => 35 | 16 => 36 | 17 => 37 | 18 => 38 | 30 => 41 | 31 => 42 | 32 => 43 | 33 => 44 | 34 => 45 | 35 => 46 | 40 => 47 | n => n, fun | 23 => 22 | 25 => 2 | 3 => 3 | 32 => 102 | 22 => 22 | 0 => 0 | 44 => 125 | 46 => 111 | 4 => 4 | 36 => 117 | 35 => 116 | 41 => 122 | 5 => 5 | 9 => 9 | 53 => 127 | 57 => 131 | 63 => 134 | 64 => 135 | n => n, fun | n => n⟩
theorem Yba.sort5 : Go.Proofs.SlLaysM.n5 Yba.prog Yba.sort5_ren := {
  mixed := by kernel_rfl
  f5 := ⟨Yba.f12.name, by decide, Yba.func12.trans (congrArg some (by kernel_rfl))⟩
  f7 := ⟨Yba.f26.name, by decide, Yba.func26.trans (congrArg some (by kernel_rfl))⟩
  f8 := Yba.func27.trans (congrArg some (by kernel_rfl))
  f10 := ⟨Yba.f30.name, by decide, Yba.func30.trans (congrArg some (by kernel_rfl))⟩
  f11 := ⟨Yba.f31.name, by decide, Yba.func31.trans (congrArg some (by kernel_rfl))⟩
  f12 := ⟨Yba.f32.name, by decide, Yba.func32.trans (congrArg some (by kernel_rfl))⟩
  f13 := ⟨Yba.f33.name, by decide, Yba.func33.trans (congrArg some (by kernel_rfl))⟩
  f14 := ⟨Yba.f34.name, by decide, Yba.func34.trans (congrArg some (by kernel_rfl))⟩
  f15 := ⟨Yba.f35.name, by decide, Yba.func35.trans (congrArg some (by kernel_rfl))⟩
  f16 := ⟨Yba.f36.name, by decide, Yba.func36.trans (congrArg some (by kernel_rfl))⟩
  f17 := ⟨Yba.f37.name, by decide, Yba.func37.trans (congrArg some (by kernel_rfl))⟩
  f18 := ⟨Yba.f38.name, by decide, Yba.func38.trans (congrArg some (by kernel_rfl))⟩
  f19 := Yba.func39.trans (congrArg some (by kernel_rfl))
  f20 := Yba.func40.trans (congrArg some (by kernel_rfl))
  f30 := ⟨Yba.f41.name, by decide, Yba.func41.trans (congrArg some (by kernel_rfl))⟩
  f31 := Yba.func42.trans (congrArg some (by kernel_rfl))
  f32 := Yba.func43.trans (congrArg some (by kernel_rfl))
  f33 := ⟨Yba.f44.name, by decide, Yba.func44.trans (congrArg some (by kernel_rfl))⟩
  f34 := ⟨Yba.f45.name, by decide, Yba.func45.trans (congrArg some (by kernel_rfl))⟩
  f35 := ⟨Yba.f46.name, by decide, Yba.func46.trans (congrArg some (by kernel_rfl))⟩
  f40 := ⟨Yba.f47.name, by decide, Yba.func47.trans (congrArg some (by kernel_rfl))⟩
  t0 := Yba.underlying0
  a0 := Yba.isAgg0
  z0 := Yba.sizeOf0
  v0 := Yba.zeroValue0
  t3 := Yba.underlying3
  a3 := Yba.isAgg3
  z3 := Yba.sizeOf3
  v3 := Yba.zeroValue3
  t4 := Yba.underlying4
  a4 := Yba.isAgg4
  z4 := Yba.sizeOf4
  v4 := Yba.zeroValue4
  t5 := Yba.underlying5
  a5 := Yba.isAgg5
  z5 := Yba.sizeOf5
  v5 := Yba.zeroValue5
  t9 := Yba.underlying9
  a9 := Yba.isAgg9
  z9 := Yba.sizeOf9
  v9 := Yba.zeroValue9
  t22 := Yba.underlying22
  a22 := Yba.isAgg22
  z22 := Yba.sizeOf22
  v22 := Yba.zeroValue22
  t23 := Yba.underlying22
  a23 := Yba.isAgg22
  z23 := Yba.sizeOf22
  v23 := Yba.zeroValue22
  t25 := Yba.underlying2
  a25 := Yba.isAgg2
  z25 := Yba.sizeOf2
  v25 := Yba.zeroValue2
  t32 := Yba.underlying102
  a32 := Yba.isAgg102
  z32 := Yba.sizeOf102
  v32 := Yba.zeroValue102
  t35 := Yba.underlying116
  a35 := Yba.isAgg116
  z35 := Yba.sizeOf116
  v35 := Yba.zeroValue116
  t36 := Yba.underlying117
  a36 := Yba.isAgg117
  z36 := Yba.sizeOf117
  v36 := Yba.zeroValue117
  t41 := Yba.underlying122
  a41 := Yba.isAgg122
  z41 := Yba.sizeOf122
  v41 := Yba.zeroValue122
  t44 := Yba.underlying125
  a44 := Yba.isAgg125
  z44 := Yba.sizeOf125
  v44 := Yba.zeroValue125
  t46 := Yba.underlying111
  a46 := Yba.isAgg111
  z46 := Yba.sizeOf111
  v46 := Yba.zeroValue111
  t53 := Yba.underlying127
  a53 := Yba.isAgg127
  z53 := Yba.sizeOf127
  v53 := Yba.zeroValue127
  t57 := Yba.underlying131
  a57 := Yba.isAgg131
  z57 := Yba.sizeOf131
  v57 := Yba.zeroValue131
  t63 := Yba.underlying134
  a63 := Yba.isAgg134
  z63 := Yba.sizeOf134
  v63 := Yba.zeroValue134
  t64 := Yba.underlying135
  a64 := Yba.isAgg135
  z64 := Yba.sizeOf135
  v64 := Yba.zeroValue135 }
end Go.Proofs
