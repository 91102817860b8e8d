/-
  DERIVED: THE SHELF's CONTRACTS AT THIS DUMP, IN PLAIN WORDS (tools/lay-plain.mjs out of 'Qxb6602841aShelf0.lean', which tools/lay-shelf.mjs wrote): THE SAME DECLARATIONS UNDER THE SAME NAMES: 'import', 'namespace', 'open', 'def', 'theorem' AND NOTHING ELSE: no command of the shelf's: FOR A HAND-IN. Each laying: the table of numbers ('.._ren') and one theorem, a field a fact of the dump's own or the kernel's comparison; each contract: ONE APPLICATION.
-/
import Derived.Shelf.SortM.Plain
import Derived.Shelf.SortM.SortNone
import Derived.Test.Qxb6602841aProg
namespace Go.Proofs
open Go.Shelf
def Try.srt_ren : Go.Shelf.Ren := ⟨fun | 5 => 28 | 8 => 30 | 7 => 29 | 19 => 40 | 20 => 41 | 10 => 31 | 11 => 32 | 12 => 33 | 13 => 34 | 14 => 35 | 15 => 36 | 16 => 37 | 17 => 38 | 18 => 39 | 30 => 42 | 31 => 43 | 32 => 44 | 33 => 45 | 34 => 46 | 35 => 47 | 40 => 48 | n => n, fun | 23 => 51 | 25 => 2 | 3 => 3 | 32 => 56 | 22 => 51 | 0 => 0 | 44 => 66 | 46 => 68 | 4 => 4 | 36 => 59 | 35 => 58 | 41 => 63 | 5 => 5 | 9 => 9 | 53 => 69 | 57 => 73 | 63 => 76 | 64 => 77 | n => n, fun | n => n⟩
theorem Try.srt : Go.Proofs.SlLaysM.n5 Try.prog Try.srt_ren := {
  mixed := by kernel_rfl
  f5 := ⟨Try.f28.name, by decide, Try.func28.trans (congrArg some (by kernel_rfl))⟩
  f7 := ⟨Try.f29.name, by decide, Try.func29.trans (congrArg some (by kernel_rfl))⟩
  f8 := Try.func30.trans (congrArg some (by kernel_rfl))
  f10 := ⟨Try.f31.name, by decide, Try.func31.trans (congrArg some (by kernel_rfl))⟩
  f11 := ⟨Try.f32.name, by decide, Try.func32.trans (congrArg some (by kernel_rfl))⟩
  f12 := ⟨Try.f33.name, by decide, Try.func33.trans (congrArg some (by kernel_rfl))⟩
  f13 := ⟨Try.f34.name, by decide, Try.func34.trans (congrArg some (by kernel_rfl))⟩
  f14 := ⟨Try.f35.name, by decide, Try.func35.trans (congrArg some (by kernel_rfl))⟩
  f15 := ⟨Try.f36.name, by decide, Try.func36.trans (congrArg some (by kernel_rfl))⟩
  f16 := ⟨Try.f37.name, by decide, Try.func37.trans (congrArg some (by kernel_rfl))⟩
  f17 := ⟨Try.f38.name, by decide, Try.func38.trans (congrArg some (by kernel_rfl))⟩
  f18 := ⟨Try.f39.name, by decide, Try.func39.trans (congrArg some (by kernel_rfl))⟩
  f19 := Try.func40.trans (congrArg some (by kernel_rfl))
  f20 := Try.func41.trans (congrArg some (by kernel_rfl))
  f30 := ⟨Try.f42.name, by decide, Try.func42.trans (congrArg some (by kernel_rfl))⟩
  f31 := Try.func43.trans (congrArg some (by kernel_rfl))
  f32 := Try.func44.trans (congrArg some (by kernel_rfl))
  f33 := ⟨Try.f45.name, by decide, Try.func45.trans (congrArg some (by kernel_rfl))⟩
  f34 := ⟨Try.f46.name, by decide, Try.func46.trans (congrArg some (by kernel_rfl))⟩
  f35 := ⟨Try.f47.name, by decide, Try.func47.trans (congrArg some (by kernel_rfl))⟩
  f40 := ⟨Try.f48.name, by decide, Try.func48.trans (congrArg some (by kernel_rfl))⟩
  t0 := Try.underlying0
  a0 := Try.isAgg0
  z0 := Try.sizeOf0
  v0 := Try.zeroValue0
  t3 := Try.underlying3
  a3 := Try.isAgg3
  z3 := Try.sizeOf3
  v3 := Try.zeroValue3
  t4 := Try.underlying4
  a4 := Try.isAgg4
  z4 := Try.sizeOf4
  v4 := Try.zeroValue4
  t5 := Try.underlying5
  a5 := Try.isAgg5
  z5 := Try.sizeOf5
  v5 := Try.zeroValue5
  t9 := Try.underlying9
  a9 := Try.isAgg9
  z9 := Try.sizeOf9
  v9 := Try.zeroValue9
  t22 := Try.underlying51
  a22 := Try.isAgg51
  z22 := Try.sizeOf51
  v22 := Try.zeroValue51
  t23 := Try.underlying51
  a23 := Try.isAgg51
  z23 := Try.sizeOf51
  v23 := Try.zeroValue51
  t25 := Try.underlying2
  a25 := Try.isAgg2
  z25 := Try.sizeOf2
  v25 := Try.zeroValue2
  t32 := Try.underlying56
  a32 := Try.isAgg56
  z32 := Try.sizeOf56
  v32 := Try.zeroValue56
  t35 := Try.underlying58
  a35 := Try.isAgg58
  z35 := Try.sizeOf58
  v35 := Try.zeroValue58
  t36 := Try.underlying59
  a36 := Try.isAgg59
  z36 := Try.sizeOf59
  v36 := Try.zeroValue59
  t41 := Try.underlying63
  a41 := Try.isAgg63
  z41 := Try.sizeOf63
  v41 := Try.zeroValue63
  t44 := Try.underlying66
  a44 := Try.isAgg66
  z44 := Try.sizeOf66
  v44 := Try.zeroValue66
  t46 := Try.underlying68
  a46 := Try.isAgg68
  z46 := Try.sizeOf68
  v46 := Try.zeroValue68
  t53 := Try.underlying69
  a53 := Try.isAgg69
  z53 := Try.sizeOf69
  v53 := Try.zeroValue69
  t57 := Try.underlying73
  a57 := Try.isAgg73
  z57 := Try.sizeOf73
  v57 := Try.zeroValue73
  t63 := Try.underlying76
  a63 := Try.isAgg76
  z63 := Try.sizeOf76
  v63 := Try.zeroValue76
  t64 := Try.underlying77
  a64 := Try.isAgg77
  z64 := Try.sizeOf77
  v64 := Try.zeroValue77 }
end Go.Proofs
