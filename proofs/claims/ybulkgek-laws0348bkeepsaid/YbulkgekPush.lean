/-
  Seat b0348a: (*completions).Push, walked.
-/
import Derived.Test.YbulkgekKept
import Derived.Maps.AppendAt
import Derived.Deep.AppendLies
import Derived.Deep.RegionWith
import Derived.Deep.RegionHeld3
import Derived.Deep.RegionLaw
namespace Go.Proofs.Ybulkgek
open Go.RowKit Go.Lib

theorem info63 : (Yba.prog.info? 63).map (fun i => (i.zero, i.size, i.bytes)) = some (some (.agg #[.int .i64 0, .int .i64 0, .int .u64 0]), 3, 24) := by kernel_rfl
theorem assert63 (v : Value) (w : World) : (Instr.typeAssert (.iface 63 v) 20 63 false).run Yba.prog w = .ok v w := by kernel_rfl

theorem news3 (w : World) (a b c : Value) (t : TypeId) : ∀ j u, [a, b, c][j]? = some u → (w.alloc (.cells #[a, b, c] t)).cell? ((⟨w.heap.size, 0, none⟩ : Addr).add j) = some u := by
  intro j u h
  rw [Addr.add_lit, Nat.zero_add, World.cell?_alloc_at _ _ _ _ rfl]
  simpa using h

theorem grownBy_setCell (b j : Nat) (w : World) (v : Value) : w.grownBy (w.setCell ⟨b, j, none⟩ v) (some b) :=
  ⟨rfl, rfl, rfl, by simp, fun k _ hk => heap_setCell_other w ⟨b, j, none⟩ k v (fun e => hk (by simp [e]))⟩

/-- What a call leaves as it was: all but the cell 'pending' of p and the block ob. -/
structure Moves (w w' : World) (p : Nat) (ob : Option Nat) : Prop where
  os : w'.os = w.os
  tape : w'.tape = w.tape
  output : w'.output = w.output
  size : w.heap.size ≤ w'.heap.size
  block : ∀ q, q < w.heap.size → q ≠ p → some q ≠ ob → w'.heap[q]? = w.heap[q]?
  cell : ∀ j, j ≠ 31 → w'.cell? ⟨p, j, none⟩ = w.cell? ⟨p, j, none⟩
  fz : ∀ j, w'.frozen? ⟨p, j, none⟩ = w.frozen? ⟨p, j, none⟩

theorem moves_push {w w1 W : World} {p : Nat} {ob : Option Nat} {o : Obj} {u : Value} (hp : p < w.heap.size) (hne : some p ≠ ob) (hg : (w.alloc o).grownBy w1 ob)
    (hW : W.heap = (w1.setCell ⟨p, 31, none⟩ u).heap ∧ W.os = w1.os ∧ W.tape = w1.tape ∧ W.output = w1.output) : Moves w W p ob := by
  have hcell : ∀ a, W.cell? a = (w1.setCell ⟨p, 31, none⟩ u).cell? a := fun a => by simp only [World.cell?, hW.1]
  have hfz : ∀ a, W.frozen? a = (w1.setCell ⟨p, 31, none⟩ u).frozen? a := fun a => by simp only [World.frozen?, hW.1]
  have hs := hg.size
  rw [World.size_alloc] at hs
  refine ⟨hW.2.1.trans hg.os, hW.2.2.1.trans hg.tape, hW.2.2.2.trans hg.output, by rw [hW.1]; simp; omega, fun q hq hqp hqo => ?_, fun j hj => ?_, fun j => ?_⟩
  · rw [hW.1, heap_setCell_other w1 ⟨p, 31, none⟩ q u (by simpa using hqp), hg.block q (by simp; omega) hqo]
    exact (World.grownBy_alloc w o none).block q hq (by simp)
  · rw [hcell, World.cell?_setCell_other _ _ _ _ (by simp), hg.cell_far ⟨p, j, none⟩ (by simp; omega) hne, World.cell?_alloc_lt _ _ ⟨p, j, none⟩ hp]
  · rw [hfz, World.frozen?_setCell, hg.frozen_far ⟨p, j, none⟩ (by simp; omega) hne, World.frozen?_alloc_old _ _ ⟨p, j, none⟩ (Nat.ne_of_lt hp)]

abbrev cellsOf3 (at_ tm run : Int) : List Value := [.int .i64 at_, .int .i64 tm, .int .u64 run]

set_option maxRecDepth 20000 in
set_option maxHeartbeats 400000 in
theorem push37 (B p n : Nat) (v : Value) (xs : List Value) (at_ tm run : Int) (w : World) (hc : w.cell? ⟨p, 31, none⟩ = some v) (hf : w.frozen? ⟨p, 31, none⟩ = false) (hrow : w.ownsRow B 63 3 v n xs) (hn : n ≤ 256) (hB : B ≤ w.heap.size) (hp : some p ≠ v.ownBlock) :
    Calls Yba.prog 37 #[.pointer (some ⟨p, 31, none⟩), .iface 63 (.agg #[.int .i64 at_, .int .i64 tm, .int .u64 run])] w fun e w' => (∃ x, e = .returned x) ∧
      ∃ g cp, w'.cell? ⟨p, 31, none⟩ = some (.slice (some ⟨g, 0, none⟩) (n + 1) cp) ∧ w'.ownsRow B 63 3 (.slice (some ⟨g, 0, none⟩) (n + 1) cp) (n + 1) (xs ++ cellsOf3 at_ tm run) ∧ p ≠ g ∧ (v.ownBlock = some g ∨ w.heap.size ≤ g) ∧ Moves w w' p v.ownBlock := by
  have hA := assert63
  have hpl : p < w.heap.size := block_lt_of_cell hc
  obtain ⟨i63, hi, z0, z1, z2⟩ := info_parts info63
  have hml : n + 1 ≤ maxLen := by unfold maxLen; omega
  have hmb : (n + 1) * 24 ≤ 140737488355328 := by omega
  have h1c : ∀ u ∈ cellsOf3 at_ tm run, u.oneCell' = true := by simp [Value.oneCell']
  have hfar1 : ∀ {w1 : World}, (w.alloc (.cells #[.int .i64 at_, .int .i64 tm, .int .u64 run] 63)).grownBy w1 v.ownBlock → w1.cell? ⟨p, 31, none⟩ = some v := fun h => by
    rw [h.cell_far ⟨p, 31, none⟩ (by simp; omega) hp, World.cell?_alloc_lt _ _ ⟨p, 31, none⟩ hpl]; exact hc
  have hfar2 : ∀ {w1 : World}, (w.alloc (.cells #[.int .i64 at_, .int .i64 tm, .int .u64 run] 63)).grownBy w1 v.ownBlock → w1.frozen? ⟨p, 31, none⟩ = false := fun h => by
    rw [h.frozen_far ⟨p, 31, none⟩ (by simp; omega) hp, World.frozen?_alloc_old _ _ ⟨p, 31, none⟩ (Nat.ne_of_lt hpl)]; exact hf
  go_enter Yba.func37, Yba.ntmps37
  go_wp2_with fail
  go_region_law ((refine step_append_lies _ (by rfl) _ _ 45 (by rfl) B 63 i63 (.agg #[.int .i64 0, .int .i64 0, .int .u64 0]) 3 24 Yba.underlying45 hi z0 z1 z2 (by rfl) (by decide) v n xs (by rfl) (by exact hrow.alloc _) ⟨w.heap.size, 0, none⟩ 1 1 (cellsOf3 at_ tm run) (by rfl) (by rfl) (by exact news3 w _ _ _ 63) h1c (by decide) hml hmb (by simp; omega) (w.heap.size + 1) (by simp) ?_; intro g cp w1 hown1 hgrow hat hlt; have hG : (w.alloc (.cells #[.int .i64 at_, .int .i64 tm, .int .u64 run] 63)).grownBy w1 v.ownBlock := ⟨hgrow.os, hgrow.tape, hgrow.output, hgrow.size, hgrow.block⟩; have hcw : w1.cell? ⟨p, 31, none⟩ = some v := hfar1 hG; have hfw : w1.frozen? ⟨p, 31, none⟩ = false := hfar2 hG; clear hgrow))
  all_goals
    go_end0
    have hpg : p ≠ g := by
      rcases hat with h | h
      · intro e; rw [h, e] at hp; exact hp rfl
      · omega
    refine ⟨⟨_, rfl⟩, g, cp, World.cell?_setCell_same' _ _ _ (by rw [hcw]; rfl), hown1.kept (grownBy_setCell p 31 w1 _) (.inr (by simpa [Value.ownBlock] using Ne.symm hpg)), hpg, ?_, moves_push hpl hp hG ⟨rfl, rfl, rfl, rfl⟩⟩
    rcases hat with h | h
    · exact .inl h
    · exact .inr (by omega)
end Go.Proofs.Ybulkgek
