/-
  The shelf's contracts of utf8.DecodeRuneInString and DecodeLastRuneInString laid at this program. Written by a program of ours (tools/mk_sb.py).
-/
import Derived.Shelf.Unicode.Decode
import Derived.Shelf.Unicode.DecodeAny
import Derived.Shelf.Unicode.DecodeLast
import Derived.Ground.NamesProg
import Derived.Test.YthohfanojaiedaaFmtProg
import Derived.ProofKit
namespace Go.Proofs
open Go.Shelf

def Tryf.dec_ren : Go.Shelf.Ren := ⟨fun | 120 => 46 | 197 => 37 | 260 => 44 | 271 => 39 | n => n, fun | 0 => 0 | 3 => 3 | 4 => 4 | 5 => 5 | 9 => 9 | 21 => 21 | 46 => 22 | 105 => 93 | 119 => 105 | 138 => 107 | 139 => 108 | n => n, fun | 3 => 2 | 4 => 3 | n => n⟩
theorem Tryf.dec_decode : Go.Proofs.Lays.n197 Tryf.prog Tryf.dec_ren := {
  mixed := by kernel_rfl
  f197 := Tryf.func37.trans (congrArg some (by kernel_rfl))
  f260 := Tryf.func44.trans (congrArg some (by kernel_rfl))
  t0 := Tryf.underlying0
  a0 := Tryf.isAgg0
  z0 := Tryf.sizeOf0
  v0 := Tryf.zeroValue0
  t3 := Tryf.underlying3
  a3 := Tryf.isAgg3
  z3 := Tryf.sizeOf3
  v3 := Tryf.zeroValue3
  t4 := Tryf.underlying4
  a4 := Tryf.isAgg4
  z4 := Tryf.sizeOf4
  v4 := Tryf.zeroValue4
  t5 := Tryf.underlying5
  a5 := Tryf.isAgg5
  z5 := Tryf.sizeOf5
  v5 := Tryf.zeroValue5
  t9 := Tryf.underlying9
  a9 := Tryf.isAgg9
  z9 := Tryf.sizeOf9
  v9 := Tryf.zeroValue9
  t21 := Tryf.underlying21
  a21 := Tryf.isAgg21
  z21 := Tryf.sizeOf21
  v21 := Tryf.zeroValue21
  t46 := Tryf.underlying22
  a46 := Tryf.isAgg22
  z46 := Tryf.sizeOf22
  v46 := Tryf.zeroValue22
  t105 := Tryf.underlying93
  a105 := Tryf.isAgg93
  z105 := Tryf.sizeOf93
  v105 := Tryf.zeroValue93
  t119 := Tryf.underlying105
  a119 := Tryf.isAgg105
  z119 := Tryf.sizeOf105
  t138 := Tryf.underlying107
  a138 := Tryf.isAgg107
  z138 := Tryf.sizeOf107
  v138 := Tryf.zeroValue107
  t139 := Tryf.underlying108
  a139 := Tryf.isAgg108
  z139 := Tryf.sizeOf108
  v139 := Tryf.zeroValue108
  g3 := by kernel_rfl
  g4 := by kernel_rfl }
theorem Tryf.dec_decodeLast : Go.Proofs.Lays.n271 Tryf.prog Tryf.dec_ren := {
  mixed := by kernel_rfl
  f120 := Tryf.func46.trans (congrArg some (by kernel_rfl))
  f197 := Tryf.func37.trans (congrArg some (by kernel_rfl))
  f260 := Tryf.func44.trans (congrArg some (by kernel_rfl))
  f271 := Tryf.func39.trans (congrArg some (by kernel_rfl))
  t0 := Tryf.underlying0
  a0 := Tryf.isAgg0
  z0 := Tryf.sizeOf0
  v0 := Tryf.zeroValue0
  t3 := Tryf.underlying3
  a3 := Tryf.isAgg3
  z3 := Tryf.sizeOf3
  v3 := Tryf.zeroValue3
  t4 := Tryf.underlying4
  a4 := Tryf.isAgg4
  z4 := Tryf.sizeOf4
  v4 := Tryf.zeroValue4
  t5 := Tryf.underlying5
  a5 := Tryf.isAgg5
  z5 := Tryf.sizeOf5
  v5 := Tryf.zeroValue5
  t9 := Tryf.underlying9
  a9 := Tryf.isAgg9
  z9 := Tryf.sizeOf9
  v9 := Tryf.zeroValue9
  t21 := Tryf.underlying21
  a21 := Tryf.isAgg21
  z21 := Tryf.sizeOf21
  v21 := Tryf.zeroValue21
  t46 := Tryf.underlying22
  a46 := Tryf.isAgg22
  z46 := Tryf.sizeOf22
  v46 := Tryf.zeroValue22
  t105 := Tryf.underlying93
  a105 := Tryf.isAgg93
  z105 := Tryf.sizeOf93
  v105 := Tryf.zeroValue93
  t119 := Tryf.underlying105
  a119 := Tryf.isAgg105
  z119 := Tryf.sizeOf105
  t138 := Tryf.underlying107
  a138 := Tryf.isAgg107
  z138 := Tryf.sizeOf107
  v138 := Tryf.zeroValue107
  t139 := Tryf.underlying108
  a139 := Tryf.isAgg108
  z139 := Tryf.sizeOf108
  v139 := Tryf.zeroValue108
  g3 := by kernel_rfl
  g4 := by kernel_rfl }
end Go.Proofs
