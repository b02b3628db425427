/-
  THE SHELF's LAYINGS AT SEAT b5071a's DUMP, IN PLAIN WORDS (tools/lay-plain.mjs out of 'YbulkczzoShelf0.lean', which tools/lay-shelf.mjs wrote): THE SAME DECLARATIONS UNDER THE SAME NAMES: 'import', 'namespace', 'open', 'def', 'theorem' AND NOTHING ELSE: no command of the shelf's: FOR A HAND-IN. Each laying: the table of numbers ('.._ren') and one theorem, a field a fact of the dump's own or the kernel's comparison; each contract: ONE APPLICATION.
-/
import Derived.Shelf.SortM.Plain
import Derived.Shelf.SortM.SortNone
import Derived.Shelf.SlicesE.Clone
import Derived.Shelf.SlicesG.CompactI
import Derived.Shelf.SlicesQ.Equal
import Derived.Test.YbulkczzoProg
set_option maxRecDepth 100000
namespace Go.Proofs.Ybulkczzo
open Go.Shelf
def sort17_ren : Go.Shelf.Ren := ⟨fun | 5 => 17 | 8 => 23 | 7 => 22 | 19 => 33 | 20 => 34 | 10 => 24 | 11 => 25 | 12 => 26 | 13 => 27 | 14 => 28 | 15 => 29 | 16 => 30 | 17 => 31 | 18 => 32 | 30 => 35 | 31 => 36 | 32 => 37 | 33 => 38 | 34 => 39 | 35 => 40 | 40 => 41 | n => n, fun | 23 => 22 | 25 => 2 | 3 => 3 | 32 => 58 | 22 => 22 | 0 => 0 | 44 => 69 | 46 => 25 | 4 => 4 | 36 => 61 | 35 => 60 | 41 => 66 | 5 => 5 | 9 => 9 | 53 => 71 | 57 => 75 | 63 => 78 | 64 => 79 | n => n, fun | n => n⟩
theorem sort17 : Go.Proofs.SlLaysM.n5 Yba.prog sort17_ren := {
  mixed := by kernel_rfl
  f5 := ⟨Yba.f17.name, by decide, Yba.func17.trans (congrArg some (by kernel_rfl))⟩
  f7 := ⟨Yba.f22.name, by decide, Yba.func22.trans (congrArg some (by kernel_rfl))⟩
  f8 := Yba.func23.trans (congrArg some (by kernel_rfl))
  f10 := ⟨Yba.f24.name, by decide, Yba.func24.trans (congrArg some (by kernel_rfl))⟩
  f11 := ⟨Yba.f25.name, by decide, Yba.func25.trans (congrArg some (by kernel_rfl))⟩
  f12 := ⟨Yba.f26.name, by decide, Yba.func26.trans (congrArg some (by kernel_rfl))⟩
  f13 := ⟨Yba.f27.name, by decide, Yba.func27.trans (congrArg some (by kernel_rfl))⟩
  f14 := ⟨Yba.f28.name, by decide, Yba.func28.trans (congrArg some (by kernel_rfl))⟩
  f15 := ⟨Yba.f29.name, by decide, Yba.func29.trans (congrArg some (by kernel_rfl))⟩
  f16 := ⟨Yba.f30.name, by decide, Yba.func30.trans (congrArg some (by kernel_rfl))⟩
  f17 := ⟨Yba.f31.name, by decide, Yba.func31.trans (congrArg some (by kernel_rfl))⟩
  f18 := ⟨Yba.f32.name, by decide, Yba.func32.trans (congrArg some (by kernel_rfl))⟩
  f19 := Yba.func33.trans (congrArg some (by kernel_rfl))
  f20 := Yba.func34.trans (congrArg some (by kernel_rfl))
  f30 := ⟨Yba.f35.name, by decide, Yba.func35.trans (congrArg some (by kernel_rfl))⟩
  f31 := Yba.func36.trans (congrArg some (by kernel_rfl))
  f32 := Yba.func37.trans (congrArg some (by kernel_rfl))
  f33 := ⟨Yba.f38.name, by decide, Yba.func38.trans (congrArg some (by kernel_rfl))⟩
  f34 := ⟨Yba.f39.name, by decide, Yba.func39.trans (congrArg some (by kernel_rfl))⟩
  f35 := ⟨Yba.f40.name, by decide, Yba.func40.trans (congrArg some (by kernel_rfl))⟩
  f40 := ⟨Yba.f41.name, by decide, Yba.func41.trans (congrArg some (by kernel_rfl))⟩
  t0 := Yba.underlying0
  a0 := Yba.isAgg0
  z0 := Yba.sizeOf0
  v0 := Yba.zeroValue0
  t3 := Yba.underlying3
  a3 := Yba.isAgg3
  z3 := Yba.sizeOf3
  v3 := Yba.zeroValue3
  t4 := Yba.underlying4
  a4 := Yba.isAgg4
  z4 := Yba.sizeOf4
  v4 := Yba.zeroValue4
  t5 := Yba.underlying5
  a5 := Yba.isAgg5
  z5 := Yba.sizeOf5
  v5 := Yba.zeroValue5
  t9 := Yba.underlying9
  a9 := Yba.isAgg9
  z9 := Yba.sizeOf9
  v9 := Yba.zeroValue9
  t22 := Yba.underlying22
  a22 := Yba.isAgg22
  z22 := Yba.sizeOf22
  v22 := Yba.zeroValue22
  t23 := Yba.underlying22
  a23 := Yba.isAgg22
  z23 := Yba.sizeOf22
  v23 := Yba.zeroValue22
  t25 := Yba.underlying2
  a25 := Yba.isAgg2
  z25 := Yba.sizeOf2
  v25 := Yba.zeroValue2
  t32 := Yba.underlying58
  a32 := Yba.isAgg58
  z32 := Yba.sizeOf58
  v32 := Yba.zeroValue58
  t35 := Yba.underlying60
  a35 := Yba.isAgg60
  z35 := Yba.sizeOf60
  v35 := Yba.zeroValue60
  t36 := Yba.underlying61
  a36 := Yba.isAgg61
  z36 := Yba.sizeOf61
  v36 := Yba.zeroValue61
  t41 := Yba.underlying66
  a41 := Yba.isAgg66
  z41 := Yba.sizeOf66
  v41 := Yba.zeroValue66
  t44 := Yba.underlying69
  a44 := Yba.isAgg69
  z44 := Yba.sizeOf69
  v44 := Yba.zeroValue69
  t46 := Yba.underlying25
  a46 := Yba.isAgg25
  z46 := Yba.sizeOf25
  v46 := Yba.zeroValue25
  t53 := Yba.underlying71
  a53 := Yba.isAgg71
  z53 := Yba.sizeOf71
  v53 := Yba.zeroValue71
  t57 := Yba.underlying75
  a57 := Yba.isAgg75
  z57 := Yba.sizeOf75
  v57 := Yba.zeroValue75
  t63 := Yba.underlying78
  a63 := Yba.isAgg78
  z63 := Yba.sizeOf78
  v63 := Yba.zeroValue78
  t64 := Yba.underlying79
  a64 := Yba.isAgg79
  z64 := Yba.sizeOf79
  v64 := Yba.zeroValue79 }
def compact18_ren : Go.Shelf.Ren := ⟨fun | 43 => 18 | n => n, fun | 22 => 22 | 23 => 2 | 3 => 3 | 4 => 4 | 0 => 0 | n => n, fun | n => n⟩
theorem compact18 : Go.Proofs.SlLaysN.n43 Yba.prog compact18_ren := {
  mixed := by kernel_rfl
  f43 := ⟨Yba.f18.name, by decide, Yba.func18.trans (congrArg some (by kernel_rfl))⟩
  t0 := Yba.underlying0
  a0 := Yba.isAgg0
  z0 := Yba.sizeOf0
  v0 := Yba.zeroValue0
  t3 := Yba.underlying3
  a3 := Yba.isAgg3
  z3 := Yba.sizeOf3
  v3 := Yba.zeroValue3
  t4 := Yba.underlying4
  a4 := Yba.isAgg4
  z4 := Yba.sizeOf4
  v4 := Yba.zeroValue4
  t22 := Yba.underlying22
  a22 := Yba.isAgg22
  z22 := Yba.sizeOf22
  v22 := Yba.zeroValue22
  t23 := Yba.underlying2
  a23 := Yba.isAgg2
  z23 := Yba.sizeOf2
  v23 := Yba.zeroValue2
  i23 := by kernel_rfl }
def clone16_ren : Go.Shelf.Ren := ⟨fun | 41 => 16 | n => n, fun | 22 => 22 | 23 => 2 | 4 => 4 | n => n, fun | n => n⟩
theorem clone16 : Go.Proofs.SlLaysE0.n41 Yba.prog clone16_ren := {
  mixed := by kernel_rfl
  f41 := ⟨Yba.f16.name, by decide, Yba.func16.trans (congrArg some (by kernel_rfl))⟩
  t4 := Yba.underlying4
  a4 := Yba.isAgg4
  z4 := Yba.sizeOf4
  v4 := Yba.zeroValue4
  t22 := Yba.underlying22
  a22 := Yba.isAgg22
  z22 := Yba.sizeOf22
  v22 := Yba.zeroValue22 }
def clone8_ren : Go.Shelf.Ren := ⟨fun | 41 => 8 | n => n, fun | 22 => 24 | 23 => 35 | 4 => 4 | n => n, fun | n => n⟩
theorem clone8 : Go.Proofs.SlLaysE0.n41 Yba.prog clone8_ren := {
  mixed := by kernel_rfl
  f41 := ⟨Yba.f8.name, by decide, Yba.func8.trans (congrArg some (by kernel_rfl))⟩
  t4 := Yba.underlying4
  a4 := Yba.isAgg4
  z4 := Yba.sizeOf4
  v4 := Yba.zeroValue4
  t22 := Yba.underlying24
  a22 := Yba.isAgg24
  z22 := Yba.sizeOf24
  v22 := Yba.zeroValue24 }
def equal10_ren : Go.Shelf.Ren := ⟨fun | 8 => 10 | n => n, fun | 22 => 24 | 24 => 35 | 4 => 4 | 3 => 3 | 0 => 0 | n => n, fun | n => n⟩
theorem equal10 : Go.Proofs.SlLaysQ.n8 Yba.prog equal10_ren := {
  mixed := by kernel_rfl
  f8 := ⟨Yba.f10.name, by decide, Yba.func10.trans (congrArg some (by kernel_rfl))⟩
  t0 := Yba.underlying0
  a0 := Yba.isAgg0
  z0 := Yba.sizeOf0
  v0 := Yba.zeroValue0
  t3 := Yba.underlying3
  a3 := Yba.isAgg3
  z3 := Yba.sizeOf3
  v3 := Yba.zeroValue3
  t4 := Yba.underlying4
  a4 := Yba.isAgg4
  z4 := Yba.sizeOf4
  v4 := Yba.zeroValue4
  t22 := Yba.underlying24
  a22 := Yba.isAgg24
  z22 := Yba.sizeOf24
  v22 := Yba.zeroValue24 }
end Go.Proofs.Ybulkczzo
