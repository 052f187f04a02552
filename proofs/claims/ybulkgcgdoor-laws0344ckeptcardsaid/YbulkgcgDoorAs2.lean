/-
  Seat b0344aD: errors.As at a plain error (no As, no Unwrap: false) and at a wrapped runtimeError (true).
-/
import Derived.Test.YbulkgcgDoorAs
namespace Go.Proofs.YbulkgcgDoor
open Go.RowKit Go.Extern.Stop Go.Stop Go.Extern

theorem typeOf22 (v : Value) (w : World) : (ReflectliteType.typeOf #[.iface 22 v]).run Ybad.prog w = .ok (.iface 54 (.agg #[.pointer (some ⟨1, 22, none⟩)])) w := by kernel_rfl
theorem assignable22 (w : World) : (ReflectliteType.relation "AssignableTo" ReflectliteType.assignableTo #[.agg #[.pointer (some ⟨1, 22, none⟩)], .iface 54 (.agg #[.pointer (some ⟨1, 28, none⟩)])]).run Ybad.prog w = .ok (.bool false) w := by kernel_rfl
theorem typeOf33 (v : Value) (w : World) : (ReflectliteType.typeOf #[.iface 33 v]).run Ybad.prog w = .ok (.iface 54 (.agg #[.pointer (some ⟨1, 33, none⟩)])) w := by kernel_rfl
theorem assignable33 (w : World) : (ReflectliteType.relation "AssignableTo" ReflectliteType.assignableTo #[.agg #[.pointer (some ⟨1, 33, none⟩)], .iface 54 (.agg #[.pointer (some ⟨1, 28, none⟩)])]).run Ybad.prog w = .ok (.bool false) w := by kernel_rfl
theorem noAs22 (v : Value) (xT : TypeId) (w : World) : (Instr.typeAssert (.iface 22 v) xT 59 true).run Ybad.prog w = .ok (.tuple #[.nilIface, .bool false]) w := run_typeAssert_lacksB Ybad.underlying59 (by kernel_rfl) (by kernel_rfl) v xT w
theorem noUn22 (v : Value) (xT : TypeId) (w : World) : (Instr.typeAssert (.iface 22 v) xT 62 true).run Ybad.prog w = .ok (.tuple #[.nilIface, .bool false]) w := run_typeAssert_lacksB Ybad.underlying62 (by kernel_rfl) (by kernel_rfl) v xT w
theorem noUs22 (v : Value) (xT : TypeId) (w : World) : (Instr.typeAssert (.iface 22 v) xT 64 true).run Ybad.prog w = .ok (.tuple #[.nilIface, .bool false]) w := run_typeAssert_lacksB Ybad.underlying64 (by kernel_rfl) (by kernel_rfl) v xT w
theorem noAs33 (v : Value) (xT : TypeId) (w : World) : (Instr.typeAssert (.iface 33 v) xT 59 true).run Ybad.prog w = .ok (.tuple #[.nilIface, .bool false]) w := run_typeAssert_lacksB Ybad.underlying59 (by kernel_rfl) (by kernel_rfl) v xT w
theorem hasUn33 (v : Value) (xT : TypeId) (w : World) : (Instr.typeAssert (.iface 33 v) xT 62 true).run Ybad.prog w = .ok (.tuple #[.iface 33 v, .bool true]) w := run_typeAssert_hasB Ybad.underlying62 (by kernel_rfl) v xT w

theorem methodUnwrap (h : Value) (w : World) : (Go.method 196 33 h "Unwrap").run Ybad.prog w = .ok (34, h) w := by kernel_rfl

set_option maxHeartbeats 1000000 in
theorem as_plain (e t : Addr) (w : World) (hg : w.cell? ⟨0, 0, none⟩ = some (.iface 54 (.agg #[.pointer (some ⟨1, 26, none⟩)]))) :
    Calls Ybad.prog 6 #[.iface 22 (.pointer (some e)), .iface 38 (.pointer (some t))] w fun ev w' => ev = .returned (.bool false) ∧ w' = (((w.alloc (.cells #[.pointer (some t)] 38)).alloc (.cells #[.pointer (some ⟨1, 38, none⟩), .pointer (some ⟨w.heap.size, 0, none⟩), .int .u64 150] 43)).alloc (.cells #[.pointer (some ⟨1, 38, none⟩), .pointer (some ⟨w.heap.size, 0, none⟩), .int .u64 150] 43)) := by
  have h7 := @run_callFunc_extern Ybad.prog 7 _ (fun args => ReflectliteValue.unpack (args.getD 0 (.tuple #[]))) Ybad.func7 (by kernel_rfl) (by kernel_rfl) (by kernel_rfl) (by kernel_rfl)
  have h8 := @run_callFunc_extern Ybad.prog 8 _ (ReflectliteValue.methodAny (ReflectliteValue.valueError "reflectlite.Value.Type" 0) (fun t _ _ _ => ReflectliteType.toType t)) Ybad.func8 (by kernel_rfl) (by kernel_rfl) (by kernel_rfl) (by kernel_rfl)
  have h9 := @run_callFunc_extern Ybad.prog 9 _ (ReflectliteValue.method (ReflectliteValue.valueError "reflectlite.Value.IsNil" 0) ReflectliteValue.isNil) Ybad.func9 (by kernel_rfl) (by kernel_rfl) (by kernel_rfl) (by kernel_rfl)
  have h28 := @run_callFunc_extern Ybad.prog 28 _ (ReflectliteType.abiMethod fun t => do pure (.int .u8 (← Rtype.kind t))) Ybad.func28 (by kernel_rfl) (by kernel_rfl) (by kernel_rfl) (by kernel_rfl)
  have h41 := @run_callFunc_extern Ybad.prog 41 _ (ReflectliteType.method ReflectliteType.elem) Ybad.func41 (by kernel_rfl) (by kernel_rfl) (by kernel_rfl) (by kernel_rfl)
  have h42 := @run_callFunc_extern Ybad.prog 42 _ (ReflectliteType.relation "Implements" ReflectliteType.implements_) Ybad.func42 (by kernel_rfl) (by kernel_rfl) (by kernel_rfl) (by kernel_rfl)
  have h11 := @run_callFunc_extern Ybad.prog 11 _ ReflectliteType.typeOf Ybad.func11 (by kernel_rfl) (by kernel_rfl) (by kernel_rfl) (by kernel_rfl)
  have h39 := @run_callFunc_extern Ybad.prog 39 _ (ReflectliteType.relation "AssignableTo" ReflectliteType.assignableTo) Ybad.func39 (by kernel_rfl) (by kernel_rfl) (by kernel_rfl) (by kernel_rfl)
  have tO := typeOf22
  have mA := m_methodAssignableTo
  have a22 := assignable22
  have f6 := ptrptr_valueOf
  have f7 := ptrptr_type
  have mK := m_methodKind
  have mE := m_methodElem
  have mI := m_methodImplements
  have k27 := ptrptr_kind
  have k25 := ptr_kind
  have e27 := ptrptr_elem
  have i25 := ptr_implements
  have n1 := noAs22
  have n2 := noUn22
  have n3 := noUs22
  have n8 := ptrptr_isNil ⟨w.heap.size, 0, none⟩ t ((w.alloc (.cells #[.pointer (some t)] 38)).alloc (.cells #[.pointer (some ⟨1, 38, none⟩), .pointer (some ⟨w.heap.size, 0, none⟩), .int .u64 150] 43)) (by simp)
  have hlt : 0 < w.heap.size := by
    rcases Nat.eq_zero_or_pos w.heap.size with h0 | h
    · simp [World.cell?, h0] at hg
    · exact h
  have hg2 : ((w.alloc (.cells #[.pointer (some t)] 38)).alloc (.cells #[.pointer (some ⟨1, 38, none⟩), .pointer (some ⟨w.heap.size, 0, none⟩), .int .u64 150] 43)).cell? ⟨0, 0, none⟩ = some (.iface 54 (.agg #[.pointer (some ⟨1, 26, none⟩)])) := by
    rw [World.cell?_alloc_lt _ _ ⟨0, 0, none⟩ (by simp), World.cell?_alloc_lt _ _ ⟨0, 0, none⟩ hlt]; exact hg
  go_enter Ybad.func6, Ybad.ntmps6
  go_wp2
  refine wp_loop_rounds 1 ?_
  rw [rounds_succ]
  go_wp2
  go_ret
  exact ⟨rfl, rfl⟩

set_option maxHeartbeats 2000000 in
/-- A wrap around a runtimeError: one Unwrap, then a hit. -/
theorem as_wrap (b : Nat) (e t : Addr) (old : Value) (w : World) (hg : w.cell? ⟨0, 0, none⟩ = some (.iface 54 (.agg #[.pointer (some ⟨1, 26, none⟩)]))) (hb : w.cell? ⟨b, 0, none⟩ = some (.iface 28 (.pointer (some e)))) (ht0 : w.cell? t = some old) (hf0 : w.frozen? t = false) :
    Calls Ybad.prog 6 #[.iface 33 (.pointer (some ⟨b, 0, none⟩)), .iface 38 (.pointer (some t))] w fun ev w' => ev = .returned (.bool true) ∧ w' = ((((w.alloc (.cells #[.pointer (some t)] 38)).alloc (.cells #[.pointer (some ⟨1, 38, none⟩), .pointer (some ⟨w.heap.size, 0, none⟩), .int .u64 150] 43)).alloc (.cells #[.pointer (some ⟨1, 38, none⟩), .pointer (some ⟨w.heap.size, 0, none⟩), .int .u64 150] 43)).alloc (.cells #[.pointer (some e)] 28)).setCell t (.pointer (some e)) := by
  have h7 := @run_callFunc_extern Ybad.prog 7 _ (fun args => ReflectliteValue.unpack (args.getD 0 (.tuple #[]))) Ybad.func7 (by kernel_rfl) (by kernel_rfl) (by kernel_rfl) (by kernel_rfl)
  have h8 := @run_callFunc_extern Ybad.prog 8 _ (ReflectliteValue.methodAny (ReflectliteValue.valueError "reflectlite.Value.Type" 0) (fun t _ _ _ => ReflectliteType.toType t)) Ybad.func8 (by kernel_rfl) (by kernel_rfl) (by kernel_rfl) (by kernel_rfl)
  have h9 := @run_callFunc_extern Ybad.prog 9 _ (ReflectliteValue.method (ReflectliteValue.valueError "reflectlite.Value.IsNil" 0) ReflectliteValue.isNil) Ybad.func9 (by kernel_rfl) (by kernel_rfl) (by kernel_rfl) (by kernel_rfl)
  have h28 := @run_callFunc_extern Ybad.prog 28 _ (ReflectliteType.abiMethod fun t => do pure (.int .u8 (← Rtype.kind t))) Ybad.func28 (by kernel_rfl) (by kernel_rfl) (by kernel_rfl) (by kernel_rfl)
  have h41 := @run_callFunc_extern Ybad.prog 41 _ (ReflectliteType.method ReflectliteType.elem) Ybad.func41 (by kernel_rfl) (by kernel_rfl) (by kernel_rfl) (by kernel_rfl)
  have h42 := @run_callFunc_extern Ybad.prog 42 _ (ReflectliteType.relation "Implements" ReflectliteType.implements_) Ybad.func42 (by kernel_rfl) (by kernel_rfl) (by kernel_rfl) (by kernel_rfl)
  have h11 := @run_callFunc_extern Ybad.prog 11 _ ReflectliteType.typeOf Ybad.func11 (by kernel_rfl) (by kernel_rfl) (by kernel_rfl) (by kernel_rfl)
  have h39 := @run_callFunc_extern Ybad.prog 39 _ (ReflectliteType.relation "AssignableTo" ReflectliteType.assignableTo) Ybad.func39 (by kernel_rfl) (by kernel_rfl) (by kernel_rfl) (by kernel_rfl)
  have h12 := @run_callFunc_extern Ybad.prog 12 _ (ReflectliteValue.method (ReflectliteValue.valueError "reflectlite.Value.Elem" 0) ReflectliteValue.elem) Ybad.func12 (by kernel_rfl) (by kernel_rfl) (by kernel_rfl) (by kernel_rfl)
  have h13 := @run_callFunc_extern Ybad.prog 13 _ ReflectliteValue.set Ybad.func13 (by kernel_rfl) (by kernel_rfl) (by kernel_rfl) (by kernel_rfl)
  have tO := typeOf33
  have mA := m_methodAssignableTo
  have a33 := assignable33
  have tO2 := ptr_typeOf
  have a28 := ptr_assignable
  have v28 := ptr_valueOf
  have f6 := ptrptr_valueOf
  have f7 := ptrptr_type
  have mK := m_methodKind
  have mE := m_methodElem
  have mI := m_methodImplements
  have k27 := ptrptr_kind
  have k25 := ptr_kind
  have e27 := ptrptr_elem
  have i25 := ptr_implements
  have n1 := noAs33
  have n2 := hasUn33
  have mU := methodUnwrap
  have n8 := ptrptr_isNil ⟨w.heap.size, 0, none⟩ t ((w.alloc (.cells #[.pointer (some t)] 38)).alloc (.cells #[.pointer (some ⟨1, 38, none⟩), .pointer (some ⟨w.heap.size, 0, none⟩), .int .u64 150] 43)) (by simp)
  have hlt : 0 < w.heap.size := by
    rcases Nat.eq_zero_or_pos w.heap.size with h0 | h
    · simp [World.cell?, h0] at hg
    · exact h
  have hg2 : ((w.alloc (.cells #[.pointer (some t)] 38)).alloc (.cells #[.pointer (some ⟨1, 38, none⟩), .pointer (some ⟨w.heap.size, 0, none⟩), .int .u64 150] 43)).cell? ⟨0, 0, none⟩ = some (.iface 54 (.agg #[.pointer (some ⟨1, 26, none⟩)])) := by
    rw [World.cell?_alloc_lt _ _ ⟨0, 0, none⟩ (by simp), World.cell?_alloc_lt _ _ ⟨0, 0, none⟩ hlt]; exact hg
  have hbl : b < w.heap.size := block_lt_of_cell hb
  have hb2 : (((w.alloc (.cells #[.pointer (some t)] 38)).alloc (.cells #[.pointer (some ⟨1, 38, none⟩), .pointer (some ⟨w.heap.size, 0, none⟩), .int .u64 150] 43)).alloc (.cells #[.pointer (some ⟨1, 38, none⟩), .pointer (some ⟨w.heap.size, 0, none⟩), .int .u64 150] 43)).cell? ⟨b, 0, none⟩ = some (.iface 28 (.pointer (some e))) := by
    rw [World.cell?_alloc_lt _ _ ⟨b, 0, none⟩ (by simp; omega), World.cell?_alloc_lt _ _ ⟨b, 0, none⟩ (by simp; omega), World.cell?_alloc_lt _ _ ⟨b, 0, none⟩ hbl]; exact hb
  have htl : t.block < w.heap.size := by
    rcases Nat.lt_or_ge t.block w.heap.size with h | h
    · exact h
    · simp [World.cell?, Array.getElem?_eq_none h] at ht0
  have el := ptrptr_elemV ⟨w.heap.size, 0, none⟩ t (((w.alloc (.cells #[.pointer (some t)] 38)).alloc (.cells #[.pointer (some ⟨1, 38, none⟩), .pointer (some ⟨w.heap.size, 0, none⟩), .int .u64 150] 43)).alloc (.cells #[.pointer (some ⟨1, 38, none⟩), .pointer (some ⟨w.heap.size, 0, none⟩), .int .u64 150] 43)) (by rw [World.cell?_alloc_lt _ _ ⟨w.heap.size, 0, none⟩ (by simp; omega)]; simp)
  have st := ptr_set t ⟨w.heap.size + 1 + 1 + 1, 0, none⟩ e old ((((w.alloc (.cells #[.pointer (some t)] 38)).alloc (.cells #[.pointer (some ⟨1, 38, none⟩), .pointer (some ⟨w.heap.size, 0, none⟩), .int .u64 150] 43)).alloc (.cells #[.pointer (some ⟨1, 38, none⟩), .pointer (some ⟨w.heap.size, 0, none⟩), .int .u64 150] 43)).alloc (.cells #[.pointer (some e)] 28))
    (by rw [World.cell?_alloc_at _ _ _ _ (by simp)]; rfl)
    (by rw [World.cell?_alloc_lt _ _ t (by simp; omega), World.cell?_alloc_lt _ _ t (by simp; omega), World.cell?_alloc_lt _ _ t (by simp; omega), World.cell?_alloc_lt _ _ t htl]; exact ht0)
    (by rw [World.frozen?_alloc_old _ _ t (by simp; omega), World.frozen?_alloc_old _ _ t (by simp; omega), World.frozen?_alloc_old _ _ t (by simp; omega), World.frozen?_alloc_old _ _ t (Nat.ne_of_lt htl)]; exact hf0)
  go_enter Ybad.func6, Ybad.ntmps6
  go_wp2
  refine wp_loop_rounds 2 ?_
  rw [rounds_succ]
  go_wp2
  rw [rounds_succ]
  go_wp2
  go_ret
  exact ⟨rfl, rfl⟩
end Go.Proofs.YbulkgcgDoor
