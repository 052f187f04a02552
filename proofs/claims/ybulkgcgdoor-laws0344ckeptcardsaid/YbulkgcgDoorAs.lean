/-
  Seat b0344aD: errors.As at the target **runtimeError: nil; a hit; a plain error (no As, no Unwrap); a wrapped one. Turned from the kit's worked example toyas to this program's numbers (28: *runtimeError, 38: **runtimeError, 26: error, 54: rtype, 43: reflectlite.Value).
-/
import Derived.Test.YbulkgcgDoorProg
import Derived.WalkKit
import Derived.LaidEql
import Derived.Stop.Asserts
import Derived.RowKitTokens
namespace Go.Proofs.YbulkgcgDoor
open Go.RowKit Go.Extern.Stop Go.Stop Go.Extern

theorem as_nil (t : Value) (w : World) :
    Calls Ybad.prog 6 #[.nilIface, t] w fun e w' => e = .returned (.bool false) ∧ w' = w := by
  go_enter Ybad.func6, Ybad.ntmps6
  go_wp2
  go_ret
  exact ⟨rfl, rfl⟩

theorem ptrptr_valueOf (t : Addr) (w : World) : (ReflectliteValue.unpack (.iface 38 (.pointer (some t)))).run Ybad.prog w
    = .ok (.agg #[.pointer (some ⟨1, 38, none⟩), .pointer (some ⟨w.heap.size, 0, none⟩), .int .u64 150]) (w.alloc (.cells #[.pointer (some t)] 38)) := by kernel_rfl
theorem ptrptr_type (a : Addr) (w : World) : (ReflectliteValue.methodAny (ReflectliteValue.valueError "reflectlite.Value.Type" 0) (fun t _ _ _ => ReflectliteType.toType t) #[.agg #[.pointer (some ⟨1, 38, none⟩), .pointer (some a), .int .u64 150]]).run Ybad.prog w
    = .ok (.iface 54 (.agg #[.pointer (some ⟨1, 38, none⟩)])) w := by kernel_rfl
theorem m_methodKind (h : Value) (w : World) : (Go.method 196 54 (.agg #[h]) "Kind").run Ybad.prog w = .ok (28, h) w := by kernel_rfl
theorem ptrptr_kind (w : World) : ((ReflectliteType.abiMethod fun t => (fun a : Nat => Value.int IntKind.u8 (a : Int)) <$> Rtype.kind t) #[.pointer (some ⟨1, 38, none⟩)]).run Ybad.prog w = .ok (.int .u8 22) w := by kernel_rfl
theorem ptr_kind (w : World) : ((ReflectliteType.abiMethod fun t => (fun a : Nat => Value.int IntKind.u8 (a : Int)) <$> Rtype.kind t) #[.pointer (some ⟨1, 28, none⟩)]).run Ybad.prog w = .ok (.int .u8 22) w := by kernel_rfl

theorem rlm (z : Sem Value) (f : TypeId → Addr → Nat → Nat → Sem Value) (v : Value) :
    ReflectliteValue.method z f #[v] = (do match ← ReflectliteValue.parts v with | none => z | some (t, a, fl) => f t a fl (fl % 32)) := rfl
theorem ptrptr_parts (a : Addr) (w : World) : (ReflectliteValue.parts (.agg #[.pointer (some ⟨1, 38, none⟩), .pointer (some a), .int .u64 150])).run Ybad.prog w = .ok (some (38, a, 150)) w := by kernel_rfl
theorem ptrptr_isNil (a p : Addr) (W : World) (ha : W.cell? a = some (.pointer (some p))) :
    (ReflectliteValue.method (ReflectliteValue.valueError "reflectlite.Value.IsNil" 0) ReflectliteValue.isNil #[.agg #[.pointer (some ⟨1, 38, none⟩), .pointer (some a), .int .u64 150]]).run Ybad.prog W = .ok (.bool false) W := by
  rw [rlm]
  simp only [Sem.run_bind, ptrptr_parts, Result.andThen]
  simp [ReflectliteValue.isNil, loadVar, isAgg, underlying, Ybad.underlying38, ha, Result.andThen]

theorem m_methodElem (h : Value) (w : World) : (Go.method 196 54 (.agg #[h]) "Elem").run Ybad.prog w = .ok (41, .agg #[h]) w := by kernel_rfl
theorem m_methodImplements (h : Value) (w : World) : (Go.method 196 54 (.agg #[h]) "Implements").run Ybad.prog w = .ok (42, .agg #[h]) w := by kernel_rfl
theorem m_methodAssignableTo (h : Value) (w : World) : (Go.method 196 54 (.agg #[h]) "AssignableTo").run Ybad.prog w = .ok (39, .agg #[h]) w := by kernel_rfl
theorem ptrptr_elem (w : World) : (ReflectliteType.method ReflectliteType.elem #[.agg #[.pointer (some ⟨1, 38, none⟩)]]).run Ybad.prog w = .ok (.iface 54 (.agg #[.pointer (some ⟨1, 28, none⟩)])) w := by kernel_rfl
theorem ptr_implements (w : World) : (ReflectliteType.relation "Implements" ReflectliteType.implements_ #[.agg #[.pointer (some ⟨1, 28, none⟩)], .iface 54 (.agg #[.pointer (some ⟨1, 26, none⟩)])]).run Ybad.prog w = .ok (.bool true) w := by kernel_rfl
theorem ptr_typeOf (v : Value) (w : World) : (ReflectliteType.typeOf #[.iface 28 v]).run Ybad.prog w = .ok (.iface 54 (.agg #[.pointer (some ⟨1, 28, none⟩)])) w := by kernel_rfl
theorem ptr_assignable (w : World) : (ReflectliteType.relation "AssignableTo" ReflectliteType.assignableTo #[.agg #[.pointer (some ⟨1, 28, none⟩)], .iface 54 (.agg #[.pointer (some ⟨1, 28, none⟩)])]).run Ybad.prog w = .ok (.bool true) w := by kernel_rfl
theorem ptr_valueOf (e : Addr) (w : World) : (ReflectliteValue.unpack (.iface 28 (.pointer (some e)))).run Ybad.prog w
    = .ok (.agg #[.pointer (some ⟨1, 28, none⟩), .pointer (some ⟨w.heap.size, 0, none⟩), .int .u64 150]) (w.alloc (.cells #[.pointer (some e)] 28)) := by kernel_rfl

theorem ptrptr_elemOf (w : World) : (Rtype.elem? 38).run Ybad.prog w = .ok (some 28) w := by kernel_rfl
theorem ptr_mk (p : Addr) (w : World) : (ReflectliteValue.mk 28 p ReflectliteValue.flagAddr).run Ybad.prog w = .ok (.agg #[.pointer (some ⟨1, 28, none⟩), .pointer (some p), .int .u64 406]) w := by kernel_rfl
theorem ptrptr_elemV (a p : Addr) (W : World) (ha : W.cell? a = some (.pointer (some p))) :
    (ReflectliteValue.method (ReflectliteValue.valueError "reflectlite.Value.Elem" 0) ReflectliteValue.elem #[.agg #[.pointer (some ⟨1, 38, none⟩), .pointer (some a), .int .u64 150]]).run Ybad.prog W
      = .ok (.agg #[.pointer (some ⟨1, 28, none⟩), .pointer (some p), .int .u64 406]) W := by
  rw [rlm]
  simp only [Sem.run_bind, ptrptr_parts, Result.andThen]
  simp [ReflectliteValue.elem, loadVar, isAgg, underlying, Ybad.underlying38, ha, Result.andThen, ptrptr_elemOf, ptr_mk]
theorem rls (v x : Value) : ReflectliteValue.set #[v, x] = (do
    let (some (dst, a, fl), some (src, b, _)) := (← ReflectliteValue.parts v, ← ReflectliteValue.parts x)
      | unsupported (.noEntry "extern/(internal/reflectlite.Value).Set.zeroValue")
    if fl / ReflectliteValue.flagAddr % 2 == 0 then unsupported (.noEntry "extern/(internal/reflectlite.Value).Set.unaddressable")
    let val ← loadVar src b
    if ← Rtype.directlyAssignable dst src then storeVar dst a val
    else if ← Rtype.implements dst src then
      if (← Rtype.kind src) == 20 then
        match val with
        | .nilIface => unsupported (.noEntry "extern/reflectlite: a nil value of one interface type handed on as a value of another")
        | _ => storeVar dst a val
      else storeVar dst a (.iface src val)
    else panicString ("reflectlite.Set: value of type " ++ (← Rtype.spelt src) ++ " is not assignable to type " ++ (← Rtype.spelt dst))
    pure (.tuple #[])) := rfl
theorem ptr_partsa (a : Addr) (w : World) : (ReflectliteValue.parts (.agg #[.pointer (some ⟨1, 28, none⟩), .pointer (some a), .int .u64 406])).run Ybad.prog w = .ok (some (28, a, 406)) w := by kernel_rfl
theorem ptr_parts (a : Addr) (w : World) : (ReflectliteValue.parts (.agg #[.pointer (some ⟨1, 28, none⟩), .pointer (some a), .int .u64 150])).run Ybad.prog w = .ok (some (28, a, 150)) w := by kernel_rfl
theorem ptr_direct (w : World) : (Rtype.directlyAssignable 28 28).run Ybad.prog w = .ok true w := by kernel_rfl
theorem ptr_size (w : World) : (sizeOf 28).run Ybad.prog w = .ok 1 w := by kernel_rfl
theorem ptr_set (ta b e : Addr) (old : Value) (W : World) (hb : W.cell? b = some (.pointer (some e))) (ht : W.cell? ta = some old) (hf : W.frozen? ta = false) :
    (ReflectliteValue.set #[.agg #[.pointer (some ⟨1, 28, none⟩), .pointer (some ta), .int .u64 406], .agg #[.pointer (some ⟨1, 28, none⟩), .pointer (some b), .int .u64 150]]).run Ybad.prog W
      = .ok (.tuple #[]) (W.setCell ta (.pointer (some e))) := by
  rw [rls]
  simp only [Sem.run_bind, ptr_partsa, ptr_parts, Result.andThen]
  simp [ReflectliteValue.flagAddr, loadVar, isAgg, underlying, Ybad.underlying28, hb, Result.andThen, ptr_direct, storeVar, Value.cells, storeCells, Addr.add]
  rw [run_store Ybad.prog W ta _ _ (by rfl)]
  simp [ht, hf]

set_option maxHeartbeats 4000000 in
theorem as_hit (e t : Addr) (old : Value) (w : World) (hg : w.cell? ⟨0, 0, none⟩ = some (.iface 54 (.agg #[.pointer (some ⟨1, 26, none⟩)]))) (ht0 : w.cell? t = some old) (hf0 : w.frozen? t = false) :
    Calls Ybad.prog 6 #[.iface 28 (.pointer (some e)), .iface 38 (.pointer (some t))] w fun ev w' => ev = .returned (.bool true) ∧ w' = ((((w.alloc (.cells #[.pointer (some t)] 38)).alloc (.cells #[.pointer (some ⟨1, 38, none⟩), .pointer (some ⟨w.heap.size, 0, none⟩), .int .u64 150] 43)).alloc (.cells #[.pointer (some ⟨1, 38, none⟩), .pointer (some ⟨w.heap.size, 0, none⟩), .int .u64 150] 43)).alloc (.cells #[.pointer (some e)] 28)).setCell t (.pointer (some e)) := by
  have h6 := @run_callFunc_extern Ybad.prog 7 _ (fun args => ReflectliteValue.unpack (args.getD 0 (.tuple #[]))) Ybad.func7 (by kernel_rfl) (by kernel_rfl) (by kernel_rfl) (by kernel_rfl)
  have h7 := @run_callFunc_extern Ybad.prog 8 _ (ReflectliteValue.methodAny (ReflectliteValue.valueError "reflectlite.Value.Type" 0) (fun t _ _ _ => ReflectliteType.toType t)) Ybad.func8 (by kernel_rfl) (by kernel_rfl) (by kernel_rfl) (by kernel_rfl)
  have h8 := @run_callFunc_extern Ybad.prog 9 _ (ReflectliteValue.method (ReflectliteValue.valueError "reflectlite.Value.IsNil" 0) ReflectliteValue.isNil) Ybad.func9 (by kernel_rfl) (by kernel_rfl) (by kernel_rfl) (by kernel_rfl)
  have h27 := @run_callFunc_extern Ybad.prog 28 _ (ReflectliteType.abiMethod fun t => do pure (.int .u8 (← Rtype.kind t))) Ybad.func28 (by kernel_rfl) (by kernel_rfl) (by kernel_rfl) (by kernel_rfl)
  have h37 := @run_callFunc_extern Ybad.prog 41 _ (ReflectliteType.method ReflectliteType.elem) Ybad.func41 (by kernel_rfl) (by kernel_rfl) (by kernel_rfl) (by kernel_rfl)
  have h38 := @run_callFunc_extern Ybad.prog 42 _ (ReflectliteType.relation "Implements" ReflectliteType.implements_) Ybad.func42 (by kernel_rfl) (by kernel_rfl) (by kernel_rfl) (by kernel_rfl)
  have h10 := @run_callFunc_extern Ybad.prog 11 _ ReflectliteType.typeOf Ybad.func11 (by kernel_rfl) (by kernel_rfl) (by kernel_rfl) (by kernel_rfl)
  have h35 := @run_callFunc_extern Ybad.prog 39 _ (ReflectliteType.relation "AssignableTo" ReflectliteType.assignableTo) Ybad.func39 (by kernel_rfl) (by kernel_rfl) (by kernel_rfl) (by kernel_rfl)
  have h11 := @run_callFunc_extern Ybad.prog 12 _ (ReflectliteValue.method (ReflectliteValue.valueError "reflectlite.Value.Elem" 0) ReflectliteValue.elem) Ybad.func12 (by kernel_rfl) (by kernel_rfl) (by kernel_rfl) (by kernel_rfl)
  have h12 := @run_callFunc_extern Ybad.prog 13 _ ReflectliteValue.set Ybad.func13 (by kernel_rfl) (by kernel_rfl) (by kernel_rfl) (by kernel_rfl)
  have tO := ptr_typeOf
  have mA := m_methodAssignableTo
  have a25 := ptr_assignable
  have v25 := ptr_valueOf
  have f6 := ptrptr_valueOf
  have f7 := ptrptr_type
  have mK := m_methodKind
  have mE := m_methodElem
  have mI := m_methodImplements
  have k27 := ptrptr_kind
  have k25 := ptr_kind
  have e27 := ptrptr_elem
  have i25 := ptr_implements
  have n8 := ptrptr_isNil ⟨w.heap.size, 0, none⟩ t ((w.alloc (.cells #[.pointer (some t)] 38)).alloc (.cells #[.pointer (some ⟨1, 38, none⟩), .pointer (some ⟨w.heap.size, 0, none⟩), .int .u64 150] 43)) (by simp)
  have hlt : 0 < w.heap.size := by
    rcases Nat.eq_zero_or_pos w.heap.size with h0 | h
    · simp [World.cell?, h0] at hg
    · exact h
  have hg2 : ((w.alloc (.cells #[.pointer (some t)] 38)).alloc (.cells #[.pointer (some ⟨1, 38, none⟩), .pointer (some ⟨w.heap.size, 0, none⟩), .int .u64 150] 43)).cell? ⟨0, 0, none⟩ = some (.iface 54 (.agg #[.pointer (some ⟨1, 26, none⟩)])) := by
    rw [World.cell?_alloc_lt _ _ ⟨0, 0, none⟩ (by simp), World.cell?_alloc_lt _ _ ⟨0, 0, none⟩ hlt]; exact hg
  have htl : t.block < w.heap.size := by
    rcases Nat.lt_or_ge t.block w.heap.size with h | h
    · exact h
    · simp [World.cell?, Array.getElem?_eq_none h] at ht0
  have el := ptrptr_elemV ⟨w.heap.size, 0, none⟩ t (((w.alloc (.cells #[.pointer (some t)] 38)).alloc (.cells #[.pointer (some ⟨1, 38, none⟩), .pointer (some ⟨w.heap.size, 0, none⟩), .int .u64 150] 43)).alloc (.cells #[.pointer (some ⟨1, 38, none⟩), .pointer (some ⟨w.heap.size, 0, none⟩), .int .u64 150] 43)) (by rw [World.cell?_alloc_lt _ _ ⟨w.heap.size, 0, none⟩ (by simp; omega)]; simp)
  have st := ptr_set t ⟨w.heap.size + 1 + 1 + 1, 0, none⟩ e old ((((w.alloc (.cells #[.pointer (some t)] 38)).alloc (.cells #[.pointer (some ⟨1, 38, none⟩), .pointer (some ⟨w.heap.size, 0, none⟩), .int .u64 150] 43)).alloc (.cells #[.pointer (some ⟨1, 38, none⟩), .pointer (some ⟨w.heap.size, 0, none⟩), .int .u64 150] 43)).alloc (.cells #[.pointer (some e)] 28))
    (by rw [World.cell?_alloc_at _ _ _ _ (by simp)]; rfl)
    (by rw [World.cell?_alloc_lt _ _ t (by simp; omega), World.cell?_alloc_lt _ _ t (by simp; omega), World.cell?_alloc_lt _ _ t (by simp; omega), World.cell?_alloc_lt _ _ t htl]; exact ht0)
    (by rw [World.frozen?_alloc_old _ _ t (by simp; omega), World.frozen?_alloc_old _ _ t (by simp; omega), World.frozen?_alloc_old _ _ t (by simp; omega), World.frozen?_alloc_old _ _ t (Nat.ne_of_lt htl)]; exact hf0)
  go_enter Ybad.func6, Ybad.ntmps6
  go_wp2
  refine wp_loop_rounds 1 ?_
  rw [rounds_succ]
  go_wp2
  go_ret
  exact ⟨rfl, rfl⟩
end Go.Proofs.YbulkgcgDoor
