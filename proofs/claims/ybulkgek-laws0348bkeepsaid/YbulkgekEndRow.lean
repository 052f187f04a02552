/-
  Seat b0348a: heap.Push and endIn at any heap, walked.
-/
import Derived.Test.YbulkgekUp
namespace Go.Proofs.Ybulkgek
open Go.RowKit Go.Lib

theorem Moves.then {w w1 w2 : World} {p g : Nat} {ob : Option Nat} (h : Moves w w1 p ob) (hg : w1.grownBy w2 (some g)) (hp : p < w.heap.size) (hpg : p ≠ g) (ho : ob = some g ∨ w.heap.size ≤ g) : Moves w w2 p ob := by
  have hpb : w2.heap[p]? = w1.heap[p]? := hg.block p (Nat.lt_of_lt_of_le hp h.size) (by simpa using hpg)
  refine ⟨hg.os.trans h.os, hg.tape.trans h.tape, hg.output.trans h.output, Nat.le_trans h.size hg.size, fun q hq hqp hqo => ?_, fun j hj => ?_, fun j => ?_⟩
  · refine (hg.block q (Nat.lt_of_lt_of_le hq h.size) ?_).trans (h.block q hq hqp hqo)
    rcases ho with ho | ho
    · rw [← ho]; exact hqo
    · intro e; have := Option.some.inj e; omega
  · exact (World.cell?_of_block (a := ⟨p, j, none⟩) hpb).trans (h.cell j hj)
  · exact (World.frozen?_of_block (a := ⟨p, j, none⟩) hpb).trans (h.fz j)

set_option maxRecDepth 20000 in
set_option maxHeartbeats 400000 in
theorem heapPush_row (B p n : Nat) (v : Value) (cs : List C3) (at_ tm run : Int) (w : World) (hc : w.cell? ⟨p, 31, none⟩ = some v) (hf : w.frozen? ⟨p, 31, none⟩ = false) (hrow : w.ownsRow B 63 3 v n (flat cs)) (hl : cs.length = n) (hn : n ≤ 256) (hB : B ≤ w.heap.size) (hp : some p ≠ v.ownBlock) :
    Calls Yba.prog 10 #[.iface 72 (.pointer (some ⟨p, 31, none⟩)), .iface 63 (.agg #[.int .i64 at_, .int .i64 tm, .int .u64 run])] w fun e w' => (∃ x, e = .returned x) ∧
      ∃ g cp ds, w'.cell? ⟨p, 31, none⟩ = some (.slice (some ⟨g, 0, none⟩) (n + 1) cp) ∧ ds.Perm (cs ++ [(at_, tm, run)]) ∧ own3 w' B g cp (n + 1) ds ∧ p ≠ g ∧ Moves w w' p v.ownBlock := by
  have HPU : Hid (Calls Yba.prog 37 #[.pointer (some ⟨p, 31, none⟩), .iface 63 (.agg #[.int .i64 at_, .int .i64 tm, .int .u64 run])] w fun e w' => (∃ x, e = .returned x) ∧
      ∃ g cp, w'.cell? ⟨p, 31, none⟩ = some (.slice (some ⟨g, 0, none⟩) (n + 1) cp) ∧ own3 w' B g cp (n + 1) (cs ++ [(at_, tm, run)]) ∧ p ≠ g ∧ (v.ownBlock = some g ∨ w.heap.size ≤ g) ∧ Moves w w' p v.ownBlock) := by
    refine (push37 B p n v (flat cs) at_ tm run w hc hf hrow hn hB hp).mono ?_
    rintro e w' ⟨h1, g, cp, h2, h3, h4⟩
    refine ⟨h1, g, cp, h2, ?_, h4⟩
    unfold own3
    rw [flat_append]
    exact h3
  have hpl : p < w.heap.size := block_lt_of_cell hc
  have m1 := mPush
  clear hrow
  go_enter Yba.func10, Yba.ntmps10
  go_wp2_with (first | (go_at_call 37; refine HPU.out.mono ?_; rintro e w1 ⟨⟨x, rfl⟩, g, cp, hcw, hrow, hpg, hog, hmv⟩; have hml := mLen ⟨p, 31, none⟩ _ w1 hcw; have HR : Hid (own3 w1 B g cp (n + 1) (cs ++ [(at_, tm, run)])) := hrow; have HM : Hid (Moves w w1 p v.ownBlock) := hmv; clear hrow hmv) | (go_at_call 32; refine (len32 _ _ _ _).mono ?_; rintro e w' ⟨rfl, rfl⟩))
  refine (up_row B p g cp (n + 1) n (cs ++ [(at_, tm, run)]) w' hcw HR.out (by simp [hl]) (by omega) (by omega) hpg).mono ?_
  rintro e w2 ⟨⟨x2, rfl⟩, hgr, ds, hpm, hown⟩
  have hc2 : w2.cell? ⟨p, 31, none⟩ = some (.slice (some ⟨g, 0, none⟩) (n + 1) cp) := hgr.cell hcw (by simpa using hpg)
  have HM2 : Hid (Moves w w2 p v.ownBlock) := HM.out.then hgr hpl hpg hog
  have HP : Hid (ds.Perm (cs ++ [(at_, tm, run)])) := hpm
  have HO : Hid (own3 w2 B g cp (n + 1) ds) := hown
  clear hgr hpm hown
  dsimp only
  go_wp2_with fail
  go_end0
  exact ⟨⟨_, rfl⟩, g, cp, ds, hc2, HP.out, HO.out, hpg, HM2.out⟩

set_option maxRecDepth 20000 in
set_option maxHeartbeats 400000 in
theorem endIn_row (B p T n i m : Nat) (v : Value) (cs : List C3) (r : Nat → Int) (dur now d X : Int) (w : World) (hi : i ≤ n) (h0 : 0 ≤ now) (h1 : now ≤ dur) (h2 : dur ≤ 9223372036854775807) (hd0 : -9223372036854775808 ≤ d) (hB : B ≤ w.heap.size)
    (hS : Sim w B p T n r dur now v) (hrow : w.ownsRow B 63 3 v m (flat cs)) (hl : cs.length = m) (hm : m ≤ 256) (hp : some p ≠ v.ownBlock) (hTv : some T ≠ v.ownBlock) (hX : (d ≤ dur - now ∧ X = now + d) ∨ (dur - now < d ∧ X = wrap64 (dur + 1))) :
    Calls Yba.prog 6 #[.pointer (some ⟨p, 0, none⟩), .int .i64 (i : Nat), .int .i64 d] w fun e w' => (∃ x, e = .returned x) ∧
      ∃ g cp ds, w'.cell? ⟨p, 31, none⟩ = some (.slice (some ⟨g, 0, none⟩) (m + 1) cp) ∧ ds.Perm (cs ++ [((X, ((i : Nat) : Int), r i) : C3)]) ∧ own3 w' B g cp (m + 1) ds ∧ p ≠ g ∧ Moves w w' p v.ownBlock := by
  have cd := hS.cd
  have ct := hS.ct
  have cn := hS.cn
  have ci := hS.ts.cell (m := i) (by omega) (Nat.le_refl _)
  have hTl : T < w.heap.size := block_lt_of_cell ci
  have hTp : T ≠ p := Ne.symm hS.ne
  have HPU : Hid (∀ q : Nat, Calls Yba.prog 10 #[.iface 72 (.pointer (some ⟨p, 31, none⟩)), .iface 63 (.agg #[.int .i64 X, .int .i64 (i : Nat), .int .u64 (r i)])] (w.drewN q) fun e w' => (∃ x, e = .returned x) ∧
      ∃ g cp ds, w'.cell? ⟨p, 31, none⟩ = some (.slice (some ⟨g, 0, none⟩) (m + 1) cp) ∧ ds.Perm (cs ++ [((X, ((i : Nat) : Int), r i) : C3)]) ∧ own3 w' B g cp (m + 1) ds ∧ p ≠ g ∧ Moves (w.drewN q) w' p v.ownBlock) :=
    fun q => heapPush_row B p m v cs X (i : Nat) (r i) (w.drewN q) hS.cp hS.fp hrow hl hm hB hp
  have hd : decide (i < n + 1) = true := decide_eq_true (by omega)
  have hdi : (i : Int) < (n : Int) + 1 := by omega
  clear hS hrow
  rcases hX with ⟨hx, rfl⟩ | ⟨hx, rfl⟩
  · go_enter Yba.func6, Yba.ntmps6
    go_wp2_with fail
    go_quiet (fail)
    go_wp2_with fail
    go_region_held3 (fun w' => w'.cell? ⟨p, 28, none⟩ = some (.slice (some ⟨T, 0, none⟩) (n + 1) (n + 1)) ∧ w'.cell? ⟨T, i * 9 + 8, none⟩ = some (.int .u64 (r i))) (first | go_keep | (refine ⟨?_, ?_⟩ <;> assumption)) ((go_at_call 10; refine (HPU.out _).mono ?_; rintro e w' ⟨⟨x, rfl⟩, g, cp, ds, a1, a2, a3, a4, hmv⟩; have b1 : w'.cell? ⟨p, 28, none⟩ = some (.slice (some ⟨T, 0, none⟩) (n + 1) (n + 1)) := (hmv.cell 28 (by decide)).trans ct; have b2 : w'.cell? ⟨T, i * 9 + 8, none⟩ = some (.int .u64 (r i)) := (World.cell?_of_block (a := ⟨T, i * 9 + 8, none⟩) (hmv.block T hTl hTp hTv)).trans ci))
    go_end0
    exact ⟨⟨_, rfl⟩, g, cp, ds, a1, a2, a3, a4, ⟨hmv.os, hmv.tape, hmv.output, hmv.size, hmv.block, hmv.cell, hmv.fz⟩⟩
  · go_enter Yba.func6, Yba.ntmps6
    go_wp2_with fail
    go_quiet (fail)
    go_wp2_with fail
    go_region_held3 (fun w' => w'.cell? ⟨p, 28, none⟩ = some (.slice (some ⟨T, 0, none⟩) (n + 1) (n + 1)) ∧ w'.cell? ⟨T, i * 9 + 8, none⟩ = some (.int .u64 (r i))) (first | go_keep | (refine ⟨?_, ?_⟩ <;> assumption)) ((go_at_call 10; refine (HPU.out _).mono ?_; rintro e w' ⟨⟨x, rfl⟩, g, cp, ds, a1, a2, a3, a4, hmv⟩; have b1 : w'.cell? ⟨p, 28, none⟩ = some (.slice (some ⟨T, 0, none⟩) (n + 1) (n + 1)) := (hmv.cell 28 (by decide)).trans ct; have b2 : w'.cell? ⟨T, i * 9 + 8, none⟩ = some (.int .u64 (r i)) := (World.cell?_of_block (a := ⟨T, i * 9 + 8, none⟩) (hmv.block T hTl hTp hTv)).trans ci))
    go_end0
    exact ⟨⟨_, rfl⟩, g, cp, ds, a1, a2, a3, a4, ⟨hmv.os, hmv.tape, hmv.output, hmv.size, hmv.block, hmv.cell, hmv.fz⟩⟩
end Go.Proofs.Ybulkgek
