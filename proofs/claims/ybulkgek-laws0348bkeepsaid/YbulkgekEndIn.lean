/-
  Seat b0348a: endIn at an empty heap, walked.
-/
import Derived.Test.YbulkgekHeap
namespace Go.Proofs.Ybulkgek
open Go.RowKit Go.Lib

set_option maxRecDepth 20000 in
set_option maxHeartbeats 400000 in
theorem endIn_nil (B p T n i : Nat) (r : Nat → Int) (dur now d X : Int) (w : World) (hi : i ≤ n) (h0 : 0 ≤ now) (h1 : now ≤ dur) (h2 : dur ≤ 9223372036854775807) (hd0 : -9223372036854775808 ≤ d) (hB : B ≤ w.heap.size)
    (hS : Sim w B p T n r dur now (.slice none 0 0)) (hX : (d ≤ dur - now ∧ X = now + d) ∨ (dur - now < d ∧ X = wrap64 (dur + 1))) :
    Calls Yba.prog 6 #[.pointer (some ⟨p, 0, none⟩), .int .i64 (i : Nat), .int .i64 d] w fun e w' => (∃ x, e = .returned x) ∧
      ∃ g cp, w'.cell? ⟨p, 31, none⟩ = some (.slice (some ⟨g, 0, none⟩) 1 cp) ∧ w'.ownsRow B 63 3 (.slice (some ⟨g, 0, none⟩) 1 cp) 1 (cellsOf3 X (i : Nat) (r i)) ∧ p ≠ g ∧ Moves w w' p none := by
  have cd := hS.cd
  have ct := hS.ct
  have cn := hS.cn
  have ci := hS.ts.cell (m := i) (by omega) (Nat.le_refl _)
  have hcp := hS.cp
  have hfp := hS.fp
  have hTl : T < w.heap.size := block_lt_of_cell ci
  have hTp : T ≠ p := Ne.symm hS.ne
  have HTS : Hid (Sim w B p T n r dur now (.slice none 0 0)) := hS
  have hd : decide (i < n + 1) = true := decide_eq_true (by omega)
  have hdi : (i : Int) < (n : Int) + 1 := by omega
  clear hS
  rcases hX with ⟨hx, rfl⟩ | ⟨hx, rfl⟩
  · go_enter Yba.func6, Yba.ntmps6
    go_wp2_with fail
    go_quiet (fail)
    go_wp2_with fail
    go_region_held3 (fun w' => w'.cell? ⟨p, 28, none⟩ = some (.slice (some ⟨T, 0, none⟩) (n + 1) (n + 1)) ∧ w'.cell? ⟨T, i * 9 + 8, none⟩ = some (.int .u64 (r i))) (first | go_keep | (refine ⟨?_, ?_⟩ <;> assumption)) ((go_at_call 10; refine (heapPush_nil B p _ _ _ _ (by exact hcp) (by exact hfp) (by exact hB)).mono ?_; rintro e w' ⟨⟨x, rfl⟩, g, cp, a1, a2, a3, hmv⟩; have b1 : w'.cell? ⟨p, 28, none⟩ = some (.slice (some ⟨T, 0, none⟩) (n + 1) (n + 1)) := (hmv.cell 28 (by decide)).trans ct; have b2 : w'.cell? ⟨T, i * 9 + 8, none⟩ = some (.int .u64 (r i)) := (World.cell?_of_block (a := ⟨T, i * 9 + 8, none⟩) (hmv.block T hTl hTp (by simp))).trans ci))
    go_end0
    exact ⟨⟨_, rfl⟩, g, cp, a1, a2, a3, ⟨hmv.os, hmv.tape, hmv.output, hmv.size, hmv.block, hmv.cell, hmv.fz⟩⟩
  · go_enter Yba.func6, Yba.ntmps6
    go_wp2_with fail
    go_quiet (fail)
    go_wp2_with fail
    go_region_held3 (fun w' => w'.cell? ⟨p, 28, none⟩ = some (.slice (some ⟨T, 0, none⟩) (n + 1) (n + 1)) ∧ w'.cell? ⟨T, i * 9 + 8, none⟩ = some (.int .u64 (r i))) (first | go_keep | (refine ⟨?_, ?_⟩ <;> assumption)) ((go_at_call 10; refine (heapPush_nil B p _ _ _ _ (by exact hcp) (by exact hfp) (by exact hB)).mono ?_; rintro e w' ⟨⟨x, rfl⟩, g, cp, a1, a2, a3, hmv⟩; have b1 : w'.cell? ⟨p, 28, none⟩ = some (.slice (some ⟨T, 0, none⟩) (n + 1) (n + 1)) := (hmv.cell 28 (by decide)).trans ct; have b2 : w'.cell? ⟨T, i * 9 + 8, none⟩ = some (.int .u64 (r i)) := (World.cell?_of_block (a := ⟨T, i * 9 + 8, none⟩) (hmv.block T hTl hTp (by simp))).trans ci))
    go_end0
    exact ⟨⟨_, rfl⟩, g, cp, a1, a2, a3, ⟨hmv.os, hmv.tape, hmv.output, hmv.size, hmv.block, hmv.cell, hmv.fz⟩⟩
end Go.Proofs.Ybulkgek
