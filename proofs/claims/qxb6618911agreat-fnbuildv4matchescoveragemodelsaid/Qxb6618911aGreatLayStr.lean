/-
  The library's sort of strings laid at this program's instance (made by the guide's tool for this dump, in plain words).
-/
import Derived.Test.Qxb6618911aGreatProg
import Derived.Shelf.SortM.Plain
import Derived.Shelf.SortM.SortNone
namespace Go.Proofs
open Go.Shelf
def Tryz.sortStr_ren : Go.Shelf.Ren := ⟨fun | 6 => 78 | 8 => 69 | 9 => 107 | 19 => 88 | 20 => 89 | 21 => 128 | 22 => 129 | 23 => 130 | 24 => 131 | 25 => 132 | 26 => 133 | 27 => 134 | 28 => 135 | 29 => 136 | 36 => 143 | 31 => 117 | 32 => 118 | 37 => 144 | 38 => 145 | 39 => 146 | 41 => 148 | n => n, fun | 27 => 22 | 29 => 9 | 3 => 3 | 32 => 142 | 26 => 22 | 0 => 0 | 44 => 41 | 46 => 40 | 4 => 4 | 36 => 163 | 35 => 162 | 41 => 127 | 5 => 5 | 9 => 9 | 53 => 186 | 57 => 190 | 63 => 205 | 64 => 206 | n => n, fun | n => n⟩
set_option maxRecDepth 1000000 in
theorem Tryz.sortStr : Go.Proofs.SlLaysM.n6 Tryz.prog Tryz.sortStr_ren := {
  mixed := by kernel_rfl
  f6 := ⟨Tryz.f78.name, by decide, Tryz.func78.trans (congrArg some (by kernel_rfl))⟩
  f8 := Tryz.func69.trans (congrArg some (by kernel_rfl))
  f9 := ⟨Tryz.f107.name, by decide, Tryz.func107.trans (congrArg some (by kernel_rfl))⟩
  f19 := Tryz.func88.trans (congrArg some (by kernel_rfl))
  f20 := Tryz.func89.trans (congrArg some (by kernel_rfl))
  f21 := ⟨Tryz.f128.name, by decide, Tryz.func128.trans (congrArg some (by kernel_rfl))⟩
  f22 := ⟨Tryz.f129.name, by decide, Tryz.func129.trans (congrArg some (by kernel_rfl))⟩
  f23 := ⟨Tryz.f130.name, by decide, Tryz.func130.trans (congrArg some (by kernel_rfl))⟩
  f24 := ⟨Tryz.f131.name, by decide, Tryz.func131.trans (congrArg some (by kernel_rfl))⟩
  f25 := ⟨Tryz.f132.name, by decide, Tryz.func132.trans (congrArg some (by kernel_rfl))⟩
  f26 := ⟨Tryz.f133.name, by decide, Tryz.func133.trans (congrArg some (by kernel_rfl))⟩
  f27 := ⟨Tryz.f134.name, by decide, Tryz.func134.trans (congrArg some (by kernel_rfl))⟩
  f28 := ⟨Tryz.f135.name, by decide, Tryz.func135.trans (congrArg some (by kernel_rfl))⟩
  f29 := ⟨Tryz.f136.name, by decide, Tryz.func136.trans (congrArg some (by kernel_rfl))⟩
  f31 := Tryz.func117.trans (congrArg some (by kernel_rfl))
  f32 := Tryz.func118.trans (congrArg some (by kernel_rfl))
  f36 := ⟨Tryz.f143.name, by decide, Tryz.func143.trans (congrArg some (by kernel_rfl))⟩
  f37 := ⟨Tryz.f144.name, by decide, Tryz.func144.trans (congrArg some (by kernel_rfl))⟩
  f38 := ⟨Tryz.f145.name, by decide, Tryz.func145.trans (congrArg some (by kernel_rfl))⟩
  f39 := ⟨Tryz.f146.name, by decide, Tryz.func146.trans (congrArg some (by kernel_rfl))⟩
  f41 := ⟨Tryz.f148.name, by decide, Tryz.func148.trans (congrArg some (by kernel_rfl))⟩
  t0 := Tryz.underlying0
  a0 := Tryz.isAgg0
  z0 := Tryz.sizeOf0
  v0 := Tryz.zeroValue0
  t3 := Tryz.underlying3
  a3 := Tryz.isAgg3
  z3 := Tryz.sizeOf3
  v3 := Tryz.zeroValue3
  t4 := Tryz.underlying4
  a4 := Tryz.isAgg4
  z4 := Tryz.sizeOf4
  v4 := Tryz.zeroValue4
  t5 := Tryz.underlying5
  a5 := Tryz.isAgg5
  z5 := Tryz.sizeOf5
  v5 := Tryz.zeroValue5
  t9 := Tryz.underlying9
  a9 := Tryz.isAgg9
  z9 := Tryz.sizeOf9
  v9 := Tryz.zeroValue9
  t26 := Tryz.underlying22
  a26 := Tryz.isAgg22
  z26 := Tryz.sizeOf22
  v26 := Tryz.zeroValue22
  t27 := Tryz.underlying22
  a27 := Tryz.isAgg22
  z27 := Tryz.sizeOf22
  v27 := Tryz.zeroValue22
  t29 := Tryz.underlying9
  a29 := Tryz.isAgg9
  z29 := Tryz.sizeOf9
  v29 := Tryz.zeroValue9
  t32 := Tryz.underlying142
  a32 := Tryz.isAgg142
  z32 := Tryz.sizeOf142
  v32 := Tryz.zeroValue142
  t35 := Tryz.underlying162
  a35 := Tryz.isAgg162
  z35 := Tryz.sizeOf162
  v35 := Tryz.zeroValue162
  t36 := Tryz.underlying163
  a36 := Tryz.isAgg163
  z36 := Tryz.sizeOf163
  v36 := Tryz.zeroValue163
  t41 := Tryz.underlying127
  a41 := Tryz.isAgg127
  z41 := Tryz.sizeOf127
  v41 := Tryz.zeroValue127
  t44 := Tryz.underlying41
  a44 := Tryz.isAgg41
  z44 := Tryz.sizeOf41
  v44 := Tryz.zeroValue41
  t46 := Tryz.underlying40
  a46 := Tryz.isAgg40
  z46 := Tryz.sizeOf40
  v46 := Tryz.zeroValue40
  t53 := Tryz.underlying186
  a53 := Tryz.isAgg186
  z53 := Tryz.sizeOf186
  v53 := Tryz.zeroValue186
  t57 := Tryz.underlying190
  a57 := Tryz.isAgg190
  z57 := Tryz.sizeOf190
  v57 := Tryz.zeroValue190
  t63 := Tryz.underlying205
  a63 := Tryz.isAgg205
  z63 := Tryz.sizeOf205
  v63 := Tryz.zeroValue205
  t64 := Tryz.underlying206
  a64 := Tryz.isAgg206
  z64 := Tryz.sizeOf206
  v64 := Tryz.zeroValue206 }
end Go.Proofs
