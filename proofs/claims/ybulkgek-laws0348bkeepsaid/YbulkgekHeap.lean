/-
  Seat b0348a: container/heap's Push and up over completions, walked.
-/
import Derived.Test.YbulkgekPush
namespace Go.Proofs.Ybulkgek
open Go.RowKit Go.Lib
theorem mPush (h : Value) (w : World) : (Go.method 374 72 h "Push").run Yba.prog w = .ok (37, h) w := by kernel_rfl
theorem load45 (a : Addr) (w : World) (v : Value) (h : w.cell? a = some v) : (loadVar 45 a).run Yba.prog w = .ok v w := by
  simp [loadVar, isAgg, underlying, Yba.underlying45, h, Result.andThen]
theorem wnc (ts : Array TypeId) (t : TypeId) (a : Addr) (name : String) : Builtin.ssaWrapNilChk_ ts t #[.pointer (some a), strVal "", strVal name] = pure (.pointer (some a)) := rfl
theorem meth72 (name : String) (f : FuncId) (hm : ((Yba.prog.info? 72).bind fun i => (i.methods.find? (·.name == name)).map fun m => (m.path.toList, m.func)) = some ([], some (f, false))) (k : Nat) (a : Addr) (v : Value) (w : World) (h : w.cell? a = some v) :
    (Go.method (k + 1) 72 (.pointer (some a)) name).run Yba.prog w = .ok (f, v) w := by
  obtain ⟨i, hi, h2⟩ := Option.bind_eq_some_iff.1 hm
  obtain ⟨m, hf, h3⟩ := Option.map_eq_some_iff.1 h2
  have hp : m.path.toList = [] := congrArg Prod.fst h3
  have hfu : m.func = some (f, false) := congrArg Prod.snd h3
  unfold Go.method
  simp [typeInfo, hi, hf, hp, hfu, Result.andThen, follow, receiverAt, Place.get, wnc, run_underlying Yba.underlying72]
  generalize (if m.path = #[] then some ((name.splitOn ".").getLast?.getD name) else none) = o
  have hl := load45 a w v h
  cases o <;> simp [asAddr, hl]
theorem mLen (a : Addr) (v : Value) (w : World) (h : w.cell? a = some v) : (Go.method 374 72 (.pointer (some a)) "Len").run Yba.prog w = .ok (32, v) w := meth72 "Len" 32 (by kernel_rfl) 373 a v w h
theorem mLess (a : Addr) (v : Value) (w : World) (h : w.cell? a = some v) : (Go.method 374 72 (.pointer (some a)) "Less").run Yba.prog w = .ok (33, v) w := meth72 "Less" 33 (by kernel_rfl) 373 a v w h
theorem mSwap (a : Addr) (v : Value) (w : World) (h : w.cell? a = some v) : (Go.method 374 72 (.pointer (some a)) "Swap").run Yba.prog w = .ok (34, v) w := meth72 "Swap" 34 (by kernel_rfl) 373 a v w h

theorem len32 (a : Option Addr) (n c : Nat) (w : World) : Calls Yba.prog 32 #[.slice a n c] w fun e w' => e = .returned (.int .i64 (n : Nat)) ∧ w' = w := by
  go_enter Yba.func32, Yba.ntmps32
  go_wp2
  go_ret
  exact ⟨rfl, rfl⟩

set_option maxHeartbeats 400000 in
theorem up_zero (h : Value) (w : World) : Calls Yba.prog 11 #[h, .int .i64 0] w fun e w' => (∃ x, e = .returned x) ∧ ∃ q, w' = w.drewN q := by
  go_enter Yba.func11, Yba.ntmps11
  go_wp2
  refine wp_loop_rounds 1 ?_
  rw [rounds_succ]
  go_wp2
  go_end0
  exact ⟨⟨_, rfl⟩, 0, rfl⟩

set_option maxRecDepth 20000 in
set_option maxHeartbeats 400000 in
theorem heapPush_nil (B p : Nat) (at_ tm run : Int) (w : World) (hc : w.cell? ⟨p, 31, none⟩ = some (.slice none 0 0)) (hf : w.frozen? ⟨p, 31, none⟩ = false) (hB : B ≤ w.heap.size) :
    Calls Yba.prog 10 #[.iface 72 (.pointer (some ⟨p, 31, none⟩)), .iface 63 (.agg #[.int .i64 at_, .int .i64 tm, .int .u64 run])] w fun e w' => (∃ x, e = .returned x) ∧
      ∃ g cp, w'.cell? ⟨p, 31, none⟩ = some (.slice (some ⟨g, 0, none⟩) 1 cp) ∧ w'.ownsRow B 63 3 (.slice (some ⟨g, 0, none⟩) 1 cp) 1 (cellsOf3 at_ tm run) ∧ p ≠ g ∧ Moves w w' p none := by
  have hP := push37 B p 0 (.slice none 0 0) [] at_ tm run w hc hf (World.ownsRow_nil _ _ _ _) (Nat.zero_le _) hB (by simp [Value.ownBlock])
  have m1 := mPush
  have m2 := mLen
  go_enter Yba.func10, Yba.ntmps10
  go_wp2_with (first | (go_at_call 37; refine hP.mono ?_; rintro e w' ⟨⟨x, rfl⟩, g, cp, hcw, hrow, hpg, hog, hmv⟩; have hml := mLen ⟨p, 31, none⟩ _ w' hcw) | (go_at_call 32; refine (len32 _ _ _ _).mono ?_; rintro e w' ⟨rfl, rfl⟩) | (go_at_call 11; refine (up_zero _ _).mono ?_; rintro e w' ⟨⟨x2, rfl⟩, q, rfl⟩))
  go_end0
  exact ⟨⟨_, rfl⟩, g, cp, hcw, hrow, hpg, ⟨hmv.os, hmv.tape, hmv.output, hmv.size, hmv.block, hmv.cell, hmv.fz⟩⟩
end Go.Proofs.Ybulkgek
