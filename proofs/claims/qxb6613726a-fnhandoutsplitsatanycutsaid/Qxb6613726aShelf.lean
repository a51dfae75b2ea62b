/-
  DERIVED: THE SHELF's CONTRACTS AT THIS DUMP, IN PLAIN WORDS (tools/lay-plain.mjs out of 'TryShelf.lean', which tools/lay-shelf.mjs wrote): THE SAME DECLARATIONS UNDER THE SAME NAMES: 'import', 'namespace', 'open', 'def', 'theorem' AND NOTHING ELSE: no command of the shelf's: FOR A HAND-IN. Each laying: the table of numbers ('.._ren') and one theorem, a field a fact of the dump's own or the kernel's comparison; each contract: ONE APPLICATION.
-/
import Derived.Shelf.SlGeneric
import Derived.Ground.SlgmProg
import Derived.Shelf.SortM.Plain
import Derived.Test.Qxb6613726aProg
namespace Go.Proofs
open Go.Shelf
def Try.lsort_ren : Go.Shelf.Ren := ⟨fun | 5 => 15 | 8 => 17 | 7 => 16 | 19 => 27 | 20 => 28 | 10 => 18 | 11 => 19 | 12 => 20 | 13 => 21 | 14 => 22 | 15 => 23 | 16 => 24 | 17 => 25 | 18 => 26 | 30 => 29 | 31 => 30 | 32 => 31 | 33 => 32 | 34 => 33 | 35 => 34 | 40 => 35 | n => n, fun | 23 => 32 | 25 => 3 | 3 => 3 | 32 => 39 | 22 => 22 | 0 => 0 | 44 => 50 | 46 => 52 | 4 => 4 | 36 => 42 | 35 => 41 | 41 => 47 | 5 => 5 | 9 => 9 | 53 => 53 | 57 => 57 | 63 => 59 | 64 => 60 | n => n, fun | n => n⟩
theorem Try.lsort : Go.Proofs.SlLaysM.n5 Try.prog Try.lsort_ren := {
  mixed := by kernel_rfl
  f5 := ⟨Try.f15.name, by decide, Try.func15.trans (congrArg some (by kernel_rfl))⟩
  f7 := ⟨Try.f16.name, by decide, Try.func16.trans (congrArg some (by kernel_rfl))⟩
  f8 := Try.func17.trans (congrArg some (by kernel_rfl))
  f10 := ⟨Try.f18.name, by decide, Try.func18.trans (congrArg some (by kernel_rfl))⟩
  f11 := ⟨Try.f19.name, by decide, Try.func19.trans (congrArg some (by kernel_rfl))⟩
  f12 := ⟨Try.f20.name, by decide, Try.func20.trans (congrArg some (by kernel_rfl))⟩
  f13 := ⟨Try.f21.name, by decide, Try.func21.trans (congrArg some (by kernel_rfl))⟩
  f14 := ⟨Try.f22.name, by decide, Try.func22.trans (congrArg some (by kernel_rfl))⟩
  f15 := ⟨Try.f23.name, by decide, Try.func23.trans (congrArg some (by kernel_rfl))⟩
  f16 := ⟨Try.f24.name, by decide, Try.func24.trans (congrArg some (by kernel_rfl))⟩
  f17 := ⟨Try.f25.name, by decide, Try.func25.trans (congrArg some (by kernel_rfl))⟩
  f18 := ⟨Try.f26.name, by decide, Try.func26.trans (congrArg some (by kernel_rfl))⟩
  f19 := Try.func27.trans (congrArg some (by kernel_rfl))
  f20 := Try.func28.trans (congrArg some (by kernel_rfl))
  f30 := ⟨Try.f29.name, by decide, Try.func29.trans (congrArg some (by kernel_rfl))⟩
  f31 := Try.func30.trans (congrArg some (by kernel_rfl))
  f32 := Try.func31.trans (congrArg some (by kernel_rfl))
  f33 := ⟨Try.f32.name, by decide, Try.func32.trans (congrArg some (by kernel_rfl))⟩
  f34 := ⟨Try.f33.name, by decide, Try.func33.trans (congrArg some (by kernel_rfl))⟩
  f35 := ⟨Try.f34.name, by decide, Try.func34.trans (congrArg some (by kernel_rfl))⟩
  f40 := ⟨Try.f35.name, by decide, Try.func35.trans (congrArg some (by kernel_rfl))⟩
  t0 := Try.underlying0
  a0 := Try.isAgg0
  z0 := Try.sizeOf0
  v0 := Try.zeroValue0
  t3 := Try.underlying3
  a3 := Try.isAgg3
  z3 := Try.sizeOf3
  v3 := Try.zeroValue3
  t4 := Try.underlying4
  a4 := Try.isAgg4
  z4 := Try.sizeOf4
  v4 := Try.zeroValue4
  t5 := Try.underlying5
  a5 := Try.isAgg5
  z5 := Try.sizeOf5
  v5 := Try.zeroValue5
  t9 := Try.underlying9
  a9 := Try.isAgg9
  z9 := Try.sizeOf9
  v9 := Try.zeroValue9
  t22 := Try.underlying22
  a22 := Try.isAgg22
  z22 := Try.sizeOf22
  v22 := Try.zeroValue22
  t23 := Try.underlying32
  a23 := Try.isAgg32
  z23 := Try.sizeOf32
  v23 := Try.zeroValue32
  t25 := Try.underlying3
  a25 := Try.isAgg3
  z25 := Try.sizeOf3
  v25 := Try.zeroValue3
  t32 := Try.underlying39
  a32 := Try.isAgg39
  z32 := Try.sizeOf39
  v32 := Try.zeroValue39
  t35 := Try.underlying41
  a35 := Try.isAgg41
  z35 := Try.sizeOf41
  v35 := Try.zeroValue41
  t36 := Try.underlying42
  a36 := Try.isAgg42
  z36 := Try.sizeOf42
  v36 := Try.zeroValue42
  t41 := Try.underlying47
  a41 := Try.isAgg47
  z41 := Try.sizeOf47
  v41 := Try.zeroValue47
  t44 := Try.underlying50
  a44 := Try.isAgg50
  z44 := Try.sizeOf50
  v44 := Try.zeroValue50
  t46 := Try.underlying52
  a46 := Try.isAgg52
  z46 := Try.sizeOf52
  v46 := Try.zeroValue52
  t53 := Try.underlying53
  a53 := Try.isAgg53
  z53 := Try.sizeOf53
  v53 := Try.zeroValue53
  t57 := Try.underlying57
  a57 := Try.isAgg57
  z57 := Try.sizeOf57
  v57 := Try.zeroValue57
  t63 := Try.underlying59
  a63 := Try.isAgg59
  z63 := Try.sizeOf59
  v63 := Try.zeroValue59
  t64 := Try.underlying60
  a64 := Try.isAgg60
  z64 := Try.sizeOf60
  v64 := Try.zeroValue60 }
end Go.Proofs
