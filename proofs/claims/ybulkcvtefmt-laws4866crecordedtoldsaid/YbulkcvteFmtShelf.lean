/-
  slices.Sort's contract of the guide's shelf, laid at this program (written by the guide's lay-plain.mjs).
-/
import Derived.Shelf.SlGeneric
import Derived.Ground.SlgmProg
import Derived.Shelf.SortM.Plain
import Derived.Shelf.SortM.SortNone
import Derived.Test.YbulkcvteFmtRows
namespace Go.Proofs
open Go.Shelf
def Ybaf.sort31_ren : Go.Shelf.Ren := ⟨fun | 5 => 31 | 8 => 40 | 7 => 39 | 19 => 57 | 20 => 58 | 10 => 49 | 11 => 50 | 12 => 51 | 13 => 52 | 14 => 53 | 15 => 54 | 16 => 47 | 17 => 55 | 18 => 56 | 30 => 61 | 31 => 62 | 32 => 63 | 33 => 64 | 34 => 65 | 35 => 60 | 40 => 66 | n => n, fun | 23 => 27 | 25 => 3 | 3 => 3 | 32 => 29 | 22 => 26 | 0 => 0 | 44 => 25 | 46 => 24 | 4 => 4 | 36 => 135 | 35 => 134 | 41 => 121 | 5 => 5 | 9 => 9 | 53 => 146 | 57 => 150 | 63 => 152 | 64 => 153 | n => n, fun | n => n⟩
theorem Ybaf.sort31 : Go.Proofs.SlLaysM.n5 Ybaf.prog Ybaf.sort31_ren := {
  mixed := by kernel_rfl
  f5 := ⟨Ybaf.f31.name, by decide, Ybaf.func31.trans (congrArg some (by kernel_rfl))⟩
  f7 := ⟨Ybaf.f39.name, by decide, Ybaf.func39.trans (congrArg some (by kernel_rfl))⟩
  f8 := Ybaf.func40.trans (congrArg some (by kernel_rfl))
  f10 := ⟨Ybaf.f49.name, by decide, Ybaf.func49.trans (congrArg some (by kernel_rfl))⟩
  f11 := ⟨Ybaf.f50.name, by decide, Ybaf.func50.trans (congrArg some (by kernel_rfl))⟩
  f12 := ⟨Ybaf.f51.name, by decide, Ybaf.func51.trans (congrArg some (by kernel_rfl))⟩
  f13 := ⟨Ybaf.f52.name, by decide, Ybaf.func52.trans (congrArg some (by kernel_rfl))⟩
  f14 := ⟨Ybaf.f53.name, by decide, Ybaf.func53.trans (congrArg some (by kernel_rfl))⟩
  f15 := ⟨Ybaf.f54.name, by decide, Ybaf.func54.trans (congrArg some (by kernel_rfl))⟩
  f16 := ⟨Ybaf.f47.name, by decide, Ybaf.func47.trans (congrArg some (by kernel_rfl))⟩
  f17 := ⟨Ybaf.f55.name, by decide, Ybaf.func55.trans (congrArg some (by kernel_rfl))⟩
  f18 := ⟨Ybaf.f56.name, by decide, Ybaf.func56.trans (congrArg some (by kernel_rfl))⟩
  f19 := Ybaf.func57.trans (congrArg some (by kernel_rfl))
  f20 := Ybaf.func58.trans (congrArg some (by kernel_rfl))
  f30 := ⟨Ybaf.f61.name, by decide, Ybaf.func61.trans (congrArg some (by kernel_rfl))⟩
  f31 := Ybaf.func62.trans (congrArg some (by kernel_rfl))
  f32 := Ybaf.func63.trans (congrArg some (by kernel_rfl))
  f33 := ⟨Ybaf.f64.name, by decide, Ybaf.func64.trans (congrArg some (by kernel_rfl))⟩
  f34 := ⟨Ybaf.f65.name, by decide, Ybaf.func65.trans (congrArg some (by kernel_rfl))⟩
  f35 := ⟨Ybaf.f60.name, by decide, Ybaf.func60.trans (congrArg some (by kernel_rfl))⟩
  f40 := ⟨Ybaf.f66.name, by decide, Ybaf.func66.trans (congrArg some (by kernel_rfl))⟩
  t0 := Ybaf.underlying0
  a0 := Ybaf.isAgg0
  z0 := Ybaf.sizeOf0
  v0 := Ybaf.zeroValue0
  t3 := Ybaf.underlying3
  a3 := Ybaf.isAgg3
  z3 := Ybaf.sizeOf3
  v3 := Ybaf.zeroValue3
  t4 := Ybaf.underlying4
  a4 := Ybaf.isAgg4
  z4 := Ybaf.sizeOf4
  v4 := Ybaf.zeroValue4
  t5 := Ybaf.underlying5
  a5 := Ybaf.isAgg5
  z5 := Ybaf.sizeOf5
  v5 := Ybaf.zeroValue5
  t9 := Ybaf.underlying9
  a9 := Ybaf.isAgg9
  z9 := Ybaf.sizeOf9
  v9 := Ybaf.zeroValue9
  t22 := Ybaf.underlying26
  a22 := Ybaf.isAgg26
  z22 := Ybaf.sizeOf26
  v22 := Ybaf.zeroValue26
  t23 := Ybaf.underlying27
  a23 := Ybaf.isAgg27
  z23 := Ybaf.sizeOf27
  v23 := Ybaf.zeroValue27
  t25 := Ybaf.underlying3
  a25 := Ybaf.isAgg3
  z25 := Ybaf.sizeOf3
  v25 := Ybaf.zeroValue3
  t32 := Ybaf.underlying29
  a32 := Ybaf.isAgg29
  z32 := Ybaf.sizeOf29
  v32 := Ybaf.zeroValue29
  t35 := Ybaf.underlying134
  a35 := Ybaf.isAgg134
  z35 := Ybaf.sizeOf134
  v35 := Ybaf.zeroValue134
  t36 := Ybaf.underlying135
  a36 := Ybaf.isAgg135
  z36 := Ybaf.sizeOf135
  v36 := Ybaf.zeroValue135
  t41 := Ybaf.underlying121
  a41 := Ybaf.isAgg121
  z41 := Ybaf.sizeOf121
  v41 := Ybaf.zeroValue121
  t44 := Ybaf.underlying25
  a44 := Ybaf.isAgg25
  z44 := Ybaf.sizeOf25
  v44 := Ybaf.zeroValue25
  t46 := Ybaf.underlying24
  a46 := Ybaf.isAgg24
  z46 := Ybaf.sizeOf24
  v46 := Ybaf.zeroValue24
  t53 := Ybaf.underlying146
  a53 := Ybaf.isAgg146
  z53 := Ybaf.sizeOf146
  v53 := Ybaf.zeroValue146
  t57 := Ybaf.underlying150
  a57 := Ybaf.isAgg150
  z57 := Ybaf.sizeOf150
  v57 := Ybaf.zeroValue150
  t63 := Ybaf.underlying152
  a63 := Ybaf.isAgg152
  z63 := Ybaf.sizeOf152
  v63 := Ybaf.zeroValue152
  t64 := Ybaf.underlying153
  a64 := Ybaf.isAgg153
  z64 := Ybaf.sizeOf153
  v64 := Ybaf.zeroValue153 }
end Go.Proofs
