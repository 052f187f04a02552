/-
  Seat b0348a: 'LawS0348BOne', walked.
-/
import Derived.Test.YbulkgekEndIn
namespace Go.Proofs.Ybulkgek
open Go.RowKit Go.Lib

theorem Moves.grown {w w' : World} {p : Nat} (h : Moves w w' p none) : w.grownBy w' (some p) :=
  ⟨h.os, h.tape, h.output, h.size, fun k hk hne => h.block k hk (fun e => hne (by rw [e])) (by simp)⟩

theorem Moves.below {w w' : World} {p B : Nat} (h : Moves w w' p none) (hp : B ≤ p) (hB : B ≤ w.heap.size) : Below B w w' :=
  ⟨h.os, h.tape, h.output, h.size, fun k hk => h.block k (by omega) (by omega) (by simp)⟩

theorem Sim.moved {w w' : World} {B p T n : Nat} {r : Nat → Int} {dur now : Int} {v v' : Value} (h : Sim w B p T n r dur now v) (hm : Moves w w' p none) (hc : w'.cell? ⟨p, 31, none⟩ = some v') : Sim w' B p T n r dur now v' :=
  ⟨h.ge, h.ne, (hm.cell 4 (by decide)).trans h.cd, (hm.cell 28 (by decide)).trans h.ct, (hm.cell 30 (by decide)).trans h.cn, hc, (hm.fz 31).trans h.fp, h.ts.kept hm.grown (fun e => h.ne (by simpa using e.symm))⟩

theorem Sim.alloc {w : World} {B p T n : Nat} {r : Nat → Int} {dur now : Int} {v : Value} (h : Sim w B p T n r dur now v) (o : Obj) : Sim (w.alloc o) B p T n r dur now v := by
  have hp : p < w.heap.size := block_lt_of_cell h.cp
  exact ⟨h.ge, h.ne, (World.cell?_alloc_lt w o ⟨p, 4, none⟩ hp).trans h.cd, (World.cell?_alloc_lt w o ⟨p, 28, none⟩ hp).trans h.ct, (World.cell?_alloc_lt w o ⟨p, 30, none⟩ hp).trans h.cn, (World.cell?_alloc_lt w o ⟨p, 31, none⟩ hp).trans h.cp,
    (World.frozen?_alloc_old w o ⟨p, 31, none⟩ (Nat.ne_of_lt hp)).trans h.fp, h.ts.kept (World.grownBy_alloc w o none) (by simp)⟩

theorem Sim.drewN {w : World} {B p T n : Nat} {r : Nat → Int} {dur now : Int} {v : Value} (h : Sim w B p T n r dur now v) (q : Nat) : Sim (w.drewN q) B p T n r dur now v :=
  ⟨h.ge, h.ne, h.cd, h.ct, h.cn, h.cp, h.fp, h.ts⟩

theorem below_drewN {B : Nat} {w w' : World} (h : Below B w w') (q : Nat) : Below B w (w'.drewN q) := ⟨h.os, h.tape, h.output, h.size, h.block⟩

theorem Runs.below {B : Nat} {w w' : World} {a : Option Addr} {len : Nat} {r : Nat → Int} (h : Runs B w a len r) (hb : Below B w w') : Runs B w' a len r := by
  rcases h with h | ⟨b, off, e, hB, hc⟩
  · exact .inl h
  · exact .inr ⟨b, off, e, hB, fun k hk => (hb.cell (p := ⟨b, off + k, none⟩) hB).trans (hc k hk)⟩

theorem one_long (dur now d sel r0 : Int) (a : Option Addr) (len cap : Nat) (w : World) (hl : (1024 : Int) < (len : Int)) :
    Calls Yba.prog 3 #[.int .i64 dur, .int .i64 now, .int .i64 d, .int .u64 r0, .slice a len cap, .int .u64 sel] w fun e w' => e = .returned (.bool true) ∧ w' = w := by
  go_enter Yba.func3, Yba.ntmps3
  go_wp2
  go_ret
  exact ⟨rfl, rfl⟩

theorem one_neg (dur now d sel r0 : Int) (a : Option Addr) (len cap : Nat) (w : World) (hl : (len : Int) ≤ 1024) (hn : now < 0) :
    Calls Yba.prog 3 #[.int .i64 dur, .int .i64 now, .int .i64 d, .int .u64 r0, .slice a len cap, .int .u64 sel] w fun e w' => e = .returned (.bool true) ∧ w' = w := by
  go_enter Yba.func3, Yba.ntmps3
  go_wp2
  go_ret
  exact ⟨rfl, rfl⟩

theorem one_past (dur now d sel r0 : Int) (a : Option Addr) (len cap : Nat) (w : World) (hl : (len : Int) ≤ 1024) (hn : 0 ≤ now) (hp : dur < now) :
    Calls Yba.prog 3 #[.int .i64 dur, .int .i64 now, .int .i64 d, .int .u64 r0, .slice a len cap, .int .u64 sel] w fun e w' => e = .returned (.bool true) ∧ w' = w := by
  go_enter Yba.func3, Yba.ntmps3
  go_wp2
  go_ret
  exact ⟨rfl, rfl⟩

set_option maxRecDepth 20000 in
set_option maxHeartbeats 400000 in
theorem one_core (dur now d X : Int) (sel i : Nat) (r : Nat → Int) (a : Option Addr) (len cap : Nat) (w : World) (hl : (len : Int) ≤ 1024) (h0 : 0 ≤ now) (h1 : now ≤ dur) (h2 : dur ≤ 9223372036854775807) (hd0 : -9223372036854775808 ≤ d) (hs : sel < 18446744073709551616) (hi : i = sel % (len + 1))
    (hR : Runs w.heap.size w a len r) (hX : (d ≤ dur - now ∧ X = now + d) ∨ (dur - now < d ∧ X = wrap64 (dur + 1)))
    (hA : ∀ w, Calls Yba.prog 7 #[.int .i64 dur, .int .i64 now, .int .i64 d] w fun e w' => e = .returned (.int .i64 X) ∧ w' = w) :
    Calls Yba.prog 3 #[.int .i64 dur, .int .i64 now, .int .i64 d, .int .u64 (r 0), .slice a len cap, .int .u64 (sel : Nat)] w fun e w' => e = .returned (.bool true) ∧ Below w.heap.size w w' := by
  have hin : i ≤ len := by have := Nat.mod_lt sel (show 0 < len + 1 by omega); omega
  have hsi : (sel : Int) % ((len : Int) + 1) = (i : Int) := by rw [hi]; simp
  have HX : Hid ((d ≤ dur - now ∧ X = now + d) ∨ (dur - now < d ∧ X = wrap64 (dur + 1))) := hX
  have HA : Hid (∀ w, Calls Yba.prog 7 #[.int .i64 dur, .int .i64 now, .int .i64 d] w fun e w' => e = .returned (.int .i64 X) ∧ w' = w) := hA
  have HR : Hid (Runs w.heap.size w a len r) := hR
  clear hX hA hR hi
  go_enter Yba.func3, Yba.ntmps3
  go_wp2_with fail
  refine (make_call dur now r a len cap w hl HR.out).mono ?_
  rintro e w1 ⟨T, p, rfl, hS, hB1⟩
  have ct := hS.ct
  have ci := hS.ts.cell (m := i) (by omega) (Nat.le_refl _)
  have HS : Hid (Sim w1 w.heap.size p T len r dur now (.slice none 0 0)) := hS
  have HB1 : Hid (Below w.heap.size w w1) := hB1
  clear hS hB1
  dsimp only
  go_wp2_with fail
  refine (endIn_nil w.heap.size p T len i r dur now d X w1 hin h0 h1 h2 hd0 HB1.out.size HS.out HX.out).mono ?_
  rintro e w2 ⟨⟨x, rfl⟩, g, cp, b1, b2, b3, hmv⟩
  have g0 := b2.cellAt 0 (by decide)
  have g1 := b2.cellAt 1 (by decide)
  have g2 := b2.cellAt 2 (by decide)
  simp only [cellsOf3, List.getElem?_cons_zero, List.getElem?_cons_succ] at g0 g1 g2
  have HS2 : Hid (Sim w2 w.heap.size p T len r dur now (.slice (some ⟨g, 0, none⟩) 1 cp)) := HS.out.moved hmv b1
  have HB2 : Hid (Below w.heap.size w w2) := HB1.out.trans (hmv.below HS.out.ge HB1.out.size)
  have HR2 : Hid (Runs w.heap.size w2 a len r) := HR.out.below HB2.out
  clear hmv b2 b3
  dsimp only
  go_wp2_with fail
  refine (HA.out _).mono ?_
  rintro e w3 ⟨rfl, rfl⟩
  dsimp only
  go_wp2_with fail
  have hgl : g < w3.heap.size := block_lt_of_cell g0
  have hpl : p < w3.heap.size := block_lt_of_cell b1
  have e1 := (World.cell?_alloc_lt w3 (.cells #[.int .i64 X, .int .i64 (i : Nat), .int .u64 (r i)] 63) ⟨p, 31, none⟩ hpl).trans b1
  have e2 := (World.cell?_alloc_lt w3 (.cells #[.int .i64 X, .int .i64 (i : Nat), .int .u64 (r i)] 63) ⟨g, 0, none⟩ hgl).trans g0
  have e3 := (World.cell?_alloc_lt w3 (.cells #[.int .i64 X, .int .i64 (i : Nat), .int .u64 (r i)] 63) ⟨g, 1, none⟩ hgl).trans g1
  have e4 := (World.cell?_alloc_lt w3 (.cells #[.int .i64 X, .int .i64 (i : Nat), .int .u64 (r i)] 63) ⟨g, 2, none⟩ hgl).trans g2
  have HW : Hid (Below w.heap.size w (w3.alloc (.cells #[.int .i64 X, .int .i64 (i : Nat), .int .u64 (r i)] 63))) := HB2.out.alloc HB2.out.size _
  go_quiet (fail)
  go_wp2_with fail
  refine (kept_call w.heap.size p T len cap r dur now _ a _ hl ((HS2.out.alloc _).drewN nq) (HR.out.below (below_drewN HW.out nq))).mono ?_
  rintro e w4 ⟨rfl, q, rfl⟩
  dsimp only
  go_wp2_with fail
  go_ret
  exact ⟨rfl, below_drewN (below_drewN HW.out _) _⟩
end Go.Proofs.Ybulkgek
