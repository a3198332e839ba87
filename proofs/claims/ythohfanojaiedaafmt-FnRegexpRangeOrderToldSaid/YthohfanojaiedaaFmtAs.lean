/-
  errors.As at a *SyntaxError that is what the target wants: true, and the target is set. Turned from the guide's worked example (ToyasAs) to this program's numbers.
-/
import Derived.Test.YthohfanojaiedaaFmtProg
import Derived.WalkKit
import Derived.LaidEql
import Derived.Stop.Asserts
import Derived.RowKitTokens
namespace Go.Proofs.YthohfanojaiedaaFmt
open Go.RowKit Go.Extern.Stop Go.Stop Go.Extern

theorem Tryf.valueOf27 (t : Addr) (w : World) : (ReflectliteValue.unpack (.iface 38 (.pointer (some t)))).run Tryf.prog w
    = .ok (.agg #[.pointer (some ⟨4, 38, none⟩), .pointer (some ⟨w.heap.size, 0, none⟩), .int .u64 150]) (w.alloc (.cells #[.pointer (some t)] 38)) := by kernel_rfl
theorem Tryf.type27 (a : Addr) (w : World) : (ReflectliteValue.methodAny (ReflectliteValue.valueError "reflectlite.Value.Type" 0) (fun t _ _ _ => ReflectliteType.toType t) #[.agg #[.pointer (some ⟨4, 38, none⟩), .pointer (some a), .int .u64 150]]).run Tryf.prog w
    = .ok (.iface 80 (.agg #[.pointer (some ⟨4, 38, none⟩)])) w := by kernel_rfl
theorem Tryf.methodKind (h : Value) (w : World) : (Go.method 244 80 (.agg #[h]) "Kind").run Tryf.prog w = .ok (65, h) w := by kernel_rfl
theorem Tryf.kind27 (w : World) : ((ReflectliteType.abiMethod fun t => (fun a : Nat => Value.int IntKind.u8 (a : Int)) <$> Rtype.kind t) #[.pointer (some ⟨4, 38, none⟩)]).run Tryf.prog w = .ok (.int .u8 22) w := by kernel_rfl
theorem Tryf.kind25 (w : World) : ((ReflectliteType.abiMethod fun t => (fun a : Nat => Value.int IntKind.u8 (a : Int)) <$> Rtype.kind t) #[.pointer (some ⟨4, 36, none⟩)]).run Tryf.prog w = .ok (.int .u8 22) w := by kernel_rfl

theorem rlm (z : Sem Value) (f : TypeId → Addr → Nat → Nat → Sem Value) (v : Value) :
    ReflectliteValue.method z f #[v] = (do match ← ReflectliteValue.parts v with | none => z | some (t, a, fl) => f t a fl (fl % 32)) := rfl
theorem Tryf.parts27 (a : Addr) (w : World) : (ReflectliteValue.parts (.agg #[.pointer (some ⟨4, 38, none⟩), .pointer (some a), .int .u64 150])).run Tryf.prog w = .ok (some (38, a, 150)) w := by kernel_rfl
/-- (Value).IsNil at the Value of a **p.E that is not nil. -/
theorem Tryf.isNil27 (a p : Addr) (W : World) (ha : W.cell? a = some (.pointer (some p))) :
    (ReflectliteValue.method (ReflectliteValue.valueError "reflectlite.Value.IsNil" 0) ReflectliteValue.isNil #[.agg #[.pointer (some ⟨4, 38, none⟩), .pointer (some a), .int .u64 150]]).run Tryf.prog W = .ok (.bool false) W := by
  rw [rlm]
  simp only [Sem.run_bind, Tryf.parts27, Result.andThen]
  simp [ReflectliteValue.isNil, loadVar, isAgg, underlying, Tryf.underlying38, ha, Result.andThen]

theorem Tryf.methodElem (h : Value) (w : World) : (Go.method 244 80 (.agg #[h]) "Elem").run Tryf.prog w = .ok (77, .agg #[h]) w := by kernel_rfl
theorem Tryf.methodImplements (h : Value) (w : World) : (Go.method 244 80 (.agg #[h]) "Implements").run Tryf.prog w = .ok (78, .agg #[h]) w := by kernel_rfl
theorem Tryf.methodAssignableTo (h : Value) (w : World) : (Go.method 244 80 (.agg #[h]) "AssignableTo").run Tryf.prog w = .ok (75, .agg #[h]) w := by kernel_rfl
theorem Tryf.elem27 (w : World) : (ReflectliteType.method ReflectliteType.elem #[.agg #[.pointer (some ⟨4, 38, none⟩)]]).run Tryf.prog w = .ok (.iface 80 (.agg #[.pointer (some ⟨4, 36, none⟩)])) w := by kernel_rfl
theorem Tryf.implements25 (w : World) : (ReflectliteType.relation "Implements" ReflectliteType.implements_ #[.agg #[.pointer (some ⟨4, 36, none⟩)], .iface 80 (.agg #[.pointer (some ⟨4, 30, none⟩)])]).run Tryf.prog w = .ok (.bool true) w := by kernel_rfl
theorem Tryf.typeOf25 (v : Value) (w : World) : (ReflectliteType.typeOf #[.iface 36 v]).run Tryf.prog w = .ok (.iface 80 (.agg #[.pointer (some ⟨4, 36, none⟩)])) w := by kernel_rfl
theorem Tryf.assignable25 (w : World) : (ReflectliteType.relation "AssignableTo" ReflectliteType.assignableTo #[.agg #[.pointer (some ⟨4, 36, none⟩)], .iface 80 (.agg #[.pointer (some ⟨4, 36, none⟩)])]).run Tryf.prog w = .ok (.bool true) w := by kernel_rfl
theorem Tryf.valueOf25 (e : Addr) (w : World) : (ReflectliteValue.unpack (.iface 36 (.pointer (some e)))).run Tryf.prog w
    = .ok (.agg #[.pointer (some ⟨4, 36, none⟩), .pointer (some ⟨w.heap.size, 0, none⟩), .int .u64 150]) (w.alloc (.cells #[.pointer (some e)] 36)) := by kernel_rfl

theorem Tryf.elemOf27 (w : World) : (Rtype.elem? 38).run Tryf.prog w = .ok (some 36) w := by kernel_rfl
theorem Tryf.mk25 (p : Addr) (w : World) : (ReflectliteValue.mk 36 p ReflectliteValue.flagAddr).run Tryf.prog w = .ok (.agg #[.pointer (some ⟨4, 36, none⟩), .pointer (some p), .int .u64 406]) w := by kernel_rfl
/-- (Value).Elem at the Value of a **p.E that is not nil: the Value of the *p.E variable that it points to, addressable. -/
theorem Tryf.elemV27 (a p : Addr) (W : World) (ha : W.cell? a = some (.pointer (some p))) :
    (ReflectliteValue.method (ReflectliteValue.valueError "reflectlite.Value.Elem" 0) ReflectliteValue.elem #[.agg #[.pointer (some ⟨4, 38, none⟩), .pointer (some a), .int .u64 150]]).run Tryf.prog W
      = .ok (.agg #[.pointer (some ⟨4, 36, none⟩), .pointer (some p), .int .u64 406]) W := by
  rw [rlm]
  simp only [Sem.run_bind, Tryf.parts27, Result.andThen]
  simp [ReflectliteValue.elem, loadVar, isAgg, underlying, Tryf.underlying38, ha, Result.andThen, Tryf.elemOf27, Tryf.mk25]
theorem rls (v x : Value) : ReflectliteValue.set #[v, x] = (do
    let (some (dst, a, fl), some (src, b, _)) := (← ReflectliteValue.parts v, ← ReflectliteValue.parts x)
      | unsupported (.noEntry "extern/(internal/reflectlite.Value).Set.zeroValue")
    if fl / ReflectliteValue.flagAddr % 2 == 0 then unsupported (.noEntry "extern/(internal/reflectlite.Value).Set.unaddressable")
    let val ← loadVar src b
    if ← Rtype.directlyAssignable dst src then storeVar dst a val
    else if ← Rtype.implements dst src then
      if (← Rtype.kind src) == 20 then
        match val with
        | .nilIface => unsupported (.noEntry "extern/reflectlite: a nil value of one interface type handed on as a value of another")
        | _ => storeVar dst a val
      else storeVar dst a (.iface src val)
    else panicString ("reflectlite.Set: value of type " ++ (← Rtype.spelt src) ++ " is not assignable to type " ++ (← Rtype.spelt dst))
    pure (.tuple #[])) := rfl
theorem Tryf.parts25a (a : Addr) (w : World) : (ReflectliteValue.parts (.agg #[.pointer (some ⟨4, 36, none⟩), .pointer (some a), .int .u64 406])).run Tryf.prog w = .ok (some (36, a, 406)) w := by kernel_rfl
theorem Tryf.parts25 (a : Addr) (w : World) : (ReflectliteValue.parts (.agg #[.pointer (some ⟨4, 36, none⟩), .pointer (some a), .int .u64 150])).run Tryf.prog w = .ok (some (36, a, 150)) w := by kernel_rfl
theorem Tryf.direct25 (w : World) : (Rtype.directlyAssignable 36 36).run Tryf.prog w = .ok true w := by kernel_rfl
theorem Tryf.size25 (w : World) : (sizeOf 36).run Tryf.prog w = .ok 1 w := by kernel_rfl
/-- (Value).Set: the *p.E variable at 'ta' gets what the Value's own variable 'b' holds. -/
theorem Tryf.set25 (ta b e : Addr) (old : Value) (W : World) (hb : W.cell? b = some (.pointer (some e))) (ht : W.cell? ta = some old) (hf : W.frozen? ta = false) :
    (ReflectliteValue.set #[.agg #[.pointer (some ⟨4, 36, none⟩), .pointer (some ta), .int .u64 406], .agg #[.pointer (some ⟨4, 36, none⟩), .pointer (some b), .int .u64 150]]).run Tryf.prog W
      = .ok (.tuple #[]) (W.setCell ta (.pointer (some e))) := by
  rw [rls]
  simp only [Sem.run_bind, Tryf.parts25a, Tryf.parts25, Result.andThen]
  simp [ReflectliteValue.flagAddr, loadVar, isAgg, underlying, Tryf.underlying36, hb, Result.andThen, Tryf.direct25, storeVar, Value.cells, storeCells, Addr.add]
  rw [run_store Tryf.prog W ta _ _ (by rfl)]
  simp [ht, hf]

set_option maxRecDepth 100000 in
set_option maxHeartbeats 4000000 in
theorem as_hit (e t : Addr) (old : Value) (w : World) (hg : w.cell? ⟨1, 0, none⟩ = some (.iface 80 (.agg #[.pointer (some ⟨4, 30, none⟩)]))) (ht0 : w.cell? t = some old) (hf0 : w.frozen? t = false) :
    Calls Tryf.prog 12 #[.iface 36 (.pointer (some e)), .iface 38 (.pointer (some t))] w fun ev w' => ev = .returned (.bool true) ∧ w' = ((((w.alloc (.cells #[.pointer (some t)] 38)).alloc (.cells #[.pointer (some ⟨4, 38, none⟩), .pointer (some ⟨w.heap.size, 0, none⟩), .int .u64 150] 58)).alloc (.cells #[.pointer (some ⟨4, 38, none⟩), .pointer (some ⟨w.heap.size, 0, none⟩), .int .u64 150] 58)).alloc (.cells #[.pointer (some e)] 36)).setCell t (.pointer (some e)) := by
  have h6 := @run_callFunc_extern Tryf.prog 17 _ (fun args => ReflectliteValue.unpack (args.getD 0 (.tuple #[]))) Tryf.func17 (by kernel_rfl) (by kernel_rfl) (by kernel_rfl) (by kernel_rfl)
  have h7 := @run_callFunc_extern Tryf.prog 18 _ (ReflectliteValue.methodAny (ReflectliteValue.valueError "reflectlite.Value.Type" 0) (fun t _ _ _ => ReflectliteType.toType t)) Tryf.func18 (by kernel_rfl) (by kernel_rfl) (by kernel_rfl) (by kernel_rfl)
  have h8 := @run_callFunc_extern Tryf.prog 19 _ (ReflectliteValue.method (ReflectliteValue.valueError "reflectlite.Value.IsNil" 0) ReflectliteValue.isNil) Tryf.func19 (by kernel_rfl) (by kernel_rfl) (by kernel_rfl) (by kernel_rfl)
  have h27 := @run_callFunc_extern Tryf.prog 65 _ (ReflectliteType.abiMethod fun t => do pure (.int .u8 (← Rtype.kind t))) Tryf.func65 (by kernel_rfl) (by kernel_rfl) (by kernel_rfl) (by kernel_rfl)
  have h37 := @run_callFunc_extern Tryf.prog 77 _ (ReflectliteType.method ReflectliteType.elem) Tryf.func77 (by kernel_rfl) (by kernel_rfl) (by kernel_rfl) (by kernel_rfl)
  have h38 := @run_callFunc_extern Tryf.prog 78 _ (ReflectliteType.relation "Implements" ReflectliteType.implements_) Tryf.func78 (by kernel_rfl) (by kernel_rfl) (by kernel_rfl) (by kernel_rfl)
  have h10 := @run_callFunc_extern Tryf.prog 33 _ ReflectliteType.typeOf Tryf.func33 (by kernel_rfl) (by kernel_rfl) (by kernel_rfl) (by kernel_rfl)
  have h35 := @run_callFunc_extern Tryf.prog 75 _ (ReflectliteType.relation "AssignableTo" ReflectliteType.assignableTo) Tryf.func75 (by kernel_rfl) (by kernel_rfl) (by kernel_rfl) (by kernel_rfl)
  have h11 := @run_callFunc_extern Tryf.prog 34 _ (ReflectliteValue.method (ReflectliteValue.valueError "reflectlite.Value.Elem" 0) ReflectliteValue.elem) Tryf.func34 (by kernel_rfl) (by kernel_rfl) (by kernel_rfl) (by kernel_rfl)
  have h12 := @run_callFunc_extern Tryf.prog 35 _ ReflectliteValue.set Tryf.func35 (by kernel_rfl) (by kernel_rfl) (by kernel_rfl) (by kernel_rfl)
  have tO := Tryf.typeOf25
  have mA := Tryf.methodAssignableTo
  have a25 := Tryf.assignable25
  have v25 := Tryf.valueOf25
  have f6 := Tryf.valueOf27
  have f7 := Tryf.type27
  have mK := Tryf.methodKind
  have mE := Tryf.methodElem
  have mI := Tryf.methodImplements
  have k27 := Tryf.kind27
  have k25 := Tryf.kind25
  have e27 := Tryf.elem27
  have i25 := Tryf.implements25
  have n8 := Tryf.isNil27 ⟨w.heap.size, 0, none⟩ t ((w.alloc (.cells #[.pointer (some t)] 38)).alloc (.cells #[.pointer (some ⟨4, 38, none⟩), .pointer (some ⟨w.heap.size, 0, none⟩), .int .u64 150] 58)) (by simp)
  have hlt : 1 < w.heap.size := World.block_lt_of_cell? _ _ hg
  have hg2 : ((w.alloc (.cells #[.pointer (some t)] 38)).alloc (.cells #[.pointer (some ⟨4, 38, none⟩), .pointer (some ⟨w.heap.size, 0, none⟩), .int .u64 150] 58)).cell? ⟨1, 0, none⟩ = some (.iface 80 (.agg #[.pointer (some ⟨4, 30, none⟩)])) := by
    rw [World.cell?_alloc_lt _ _ ⟨1, 0, none⟩ (by simp; omega), World.cell?_alloc_lt _ _ ⟨1, 0, none⟩ hlt]; exact hg
  have htl : t.block < w.heap.size := by
    rcases Nat.lt_or_ge t.block w.heap.size with h | h
    · exact h
    · simp [World.cell?, Array.getElem?_eq_none h] at ht0
  have el := Tryf.elemV27 ⟨w.heap.size, 0, none⟩ t (((w.alloc (.cells #[.pointer (some t)] 38)).alloc (.cells #[.pointer (some ⟨4, 38, none⟩), .pointer (some ⟨w.heap.size, 0, none⟩), .int .u64 150] 58)).alloc (.cells #[.pointer (some ⟨4, 38, none⟩), .pointer (some ⟨w.heap.size, 0, none⟩), .int .u64 150] 58)) (by rw [World.cell?_alloc_lt _ _ ⟨w.heap.size, 0, none⟩ (by simp; omega)]; simp)
  have st := Tryf.set25 t ⟨w.heap.size + 1 + 1 + 1, 0, none⟩ e old ((((w.alloc (.cells #[.pointer (some t)] 38)).alloc (.cells #[.pointer (some ⟨4, 38, none⟩), .pointer (some ⟨w.heap.size, 0, none⟩), .int .u64 150] 58)).alloc (.cells #[.pointer (some ⟨4, 38, none⟩), .pointer (some ⟨w.heap.size, 0, none⟩), .int .u64 150] 58)).alloc (.cells #[.pointer (some e)] 36))
    (by rw [World.cell?_alloc_at _ _ _ _ (by simp)]; rfl)
    (by rw [World.cell?_alloc_lt _ _ t (by simp; omega), World.cell?_alloc_lt _ _ t (by simp; omega), World.cell?_alloc_lt _ _ t (by simp; omega), World.cell?_alloc_lt _ _ t htl]; exact ht0)
    (by rw [World.frozen?_alloc_old _ _ t (by simp; omega), World.frozen?_alloc_old _ _ t (by simp; omega), World.frozen?_alloc_old _ _ t (by simp; omega), World.frozen?_alloc_old _ _ t (Nat.ne_of_lt htl)]; exact hf0)
  go_enter Tryf.func12, Tryf.ntmps12
  go_wp2
  refine wp_loop_rounds 1 ?_
  rw [rounds_succ]
  go_wp2
  go_ret
  exact ⟨rfl, rfl⟩
end Go.Proofs.YthohfanojaiedaaFmt
