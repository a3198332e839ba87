/-
  The shelf's contracts of utf8.DecodeRuneInString and DecodeLastRuneInString laid at this program. Written by a program of ours (tools/mk_sb.py).
-/
import Derived.Shelf.Unicode.Decode
import Derived.Shelf.Unicode.DecodeAny
import Derived.Shelf.Unicode.DecodeLast
import Derived.Ground.NamesProg
import Derived.Test.YtdpiipejpmheoaaFmtProg
import Derived.ProofKit
namespace Go.Proofs
open Go.Shelf

def Tryf.dec_ren : Go.Shelf.Ren := ⟨fun | 120 => 32 | 197 => 23 | 260 => 30 | 271 => 25 | n => n, fun | 0 => 0 | 3 => 3 | 4 => 4 | 5 => 5 | 9 => 9 | 21 => 21 | 46 => 22 | 105 => 60 | 119 => 73 | 138 => 75 | 139 => 76 | n => n, fun | 3 => 1 | 4 => 2 | n => n⟩
theorem Tryf.dec_decode : Go.Proofs.Lays.n197 Tryf.prog Tryf.dec_ren := {
  mixed := by kernel_rfl
  f197 := Tryf.func23.trans (congrArg some (by kernel_rfl))
  f260 := Tryf.func30.trans (congrArg some (by kernel_rfl))
  t0 := Tryf.underlying0
  a0 := Tryf.isAgg0
  z0 := Tryf.sizeOf0
  v0 := Tryf.zeroValue0
  t3 := Tryf.underlying3
  a3 := Tryf.isAgg3
  z3 := Tryf.sizeOf3
  v3 := Tryf.zeroValue3
  t4 := Tryf.underlying4
  a4 := Tryf.isAgg4
  z4 := Tryf.sizeOf4
  v4 := Tryf.zeroValue4
  t5 := Tryf.underlying5
  a5 := Tryf.isAgg5
  z5 := Tryf.sizeOf5
  v5 := Tryf.zeroValue5
  t9 := Tryf.underlying9
  a9 := Tryf.isAgg9
  z9 := Tryf.sizeOf9
  v9 := Tryf.zeroValue9
  t21 := Tryf.underlying21
  a21 := Tryf.isAgg21
  z21 := Tryf.sizeOf21
  v21 := Tryf.zeroValue21
  t46 := Tryf.underlying22
  a46 := Tryf.isAgg22
  z46 := Tryf.sizeOf22
  v46 := Tryf.zeroValue22
  t105 := Tryf.underlying60
  a105 := Tryf.isAgg60
  z105 := Tryf.sizeOf60
  v105 := Tryf.zeroValue60
  t119 := Tryf.underlying73
  a119 := Tryf.isAgg73
  z119 := Tryf.sizeOf73
  t138 := Tryf.underlying75
  a138 := Tryf.isAgg75
  z138 := Tryf.sizeOf75
  v138 := Tryf.zeroValue75
  t139 := Tryf.underlying76
  a139 := Tryf.isAgg76
  z139 := Tryf.sizeOf76
  v139 := Tryf.zeroValue76
  g3 := by kernel_rfl
  g4 := by kernel_rfl }
theorem Tryf.dec_decodeLast : Go.Proofs.Lays.n271 Tryf.prog Tryf.dec_ren := {
  mixed := by kernel_rfl
  f120 := Tryf.func32.trans (congrArg some (by kernel_rfl))
  f197 := Tryf.func23.trans (congrArg some (by kernel_rfl))
  f260 := Tryf.func30.trans (congrArg some (by kernel_rfl))
  f271 := Tryf.func25.trans (congrArg some (by kernel_rfl))
  t0 := Tryf.underlying0
  a0 := Tryf.isAgg0
  z0 := Tryf.sizeOf0
  v0 := Tryf.zeroValue0
  t3 := Tryf.underlying3
  a3 := Tryf.isAgg3
  z3 := Tryf.sizeOf3
  v3 := Tryf.zeroValue3
  t4 := Tryf.underlying4
  a4 := Tryf.isAgg4
  z4 := Tryf.sizeOf4
  v4 := Tryf.zeroValue4
  t5 := Tryf.underlying5
  a5 := Tryf.isAgg5
  z5 := Tryf.sizeOf5
  v5 := Tryf.zeroValue5
  t9 := Tryf.underlying9
  a9 := Tryf.isAgg9
  z9 := Tryf.sizeOf9
  v9 := Tryf.zeroValue9
  t21 := Tryf.underlying21
  a21 := Tryf.isAgg21
  z21 := Tryf.sizeOf21
  v21 := Tryf.zeroValue21
  t46 := Tryf.underlying22
  a46 := Tryf.isAgg22
  z46 := Tryf.sizeOf22
  v46 := Tryf.zeroValue22
  t105 := Tryf.underlying60
  a105 := Tryf.isAgg60
  z105 := Tryf.sizeOf60
  v105 := Tryf.zeroValue60
  t119 := Tryf.underlying73
  a119 := Tryf.isAgg73
  z119 := Tryf.sizeOf73
  t138 := Tryf.underlying75
  a138 := Tryf.isAgg75
  z138 := Tryf.sizeOf75
  v138 := Tryf.zeroValue75
  t139 := Tryf.underlying76
  a139 := Tryf.isAgg76
  z139 := Tryf.sizeOf76
  v139 := Tryf.zeroValue76
  g3 := by kernel_rfl
  g4 := by kernel_rfl }
end Go.Proofs
