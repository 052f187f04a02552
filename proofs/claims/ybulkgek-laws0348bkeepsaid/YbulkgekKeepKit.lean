/-
  Seat b0348a: what 'LawS0348BKeep' wants besides the walks: how its rows lie.
-/
import Derived.Test.YbulkgekOne
import Derived.Test.YbulkgekEndRow
import Derived.Test.YbulkgekCount
namespace Go.Proofs.Ybulkgek
open Go.RowKit Go.Lib

/-- The old completions that came in. -/
def Olds (B : Nat) (w : World) (a : Option Addr) (len : Nat) (os : List C3) : Prop :=
  os.length = len ∧ (len = 0 ∨ ∃ b off, a = some ⟨b, off, none⟩ ∧ b < B ∧ ∀ k x, os[k]? = some x →
    w.cell? ⟨b, off + k * 3, none⟩ = some (.int .i64 x.1) ∧ w.cell? ⟨b, off + k * 3 + 1, none⟩ = some (.int .i64 x.2.1) ∧ w.cell? ⟨b, off + k * 3 + 2, none⟩ = some (.int .u64 x.2.2))

theorem getElem?_flat_rep (n j : Nat) (h : j < n * 3) : (flat (List.replicate n ((0, 0, 0) : C3)))[j]? = #[Value.int .i64 0, .int .i64 0, .int .u64 0][j % 3]? := by
  have hk : j / 3 < (List.replicate n ((0, 0, 0) : C3)).length := by simp; omega
  have hf := flat_get (List.replicate n ((0, 0, 0) : C3)) (j / 3) hk
  simp only [List.getElem_replicate] at hf
  have h3 : j % 3 = 0 ∨ j % 3 = 1 ∨ j % 3 = 2 := by omega
  rcases h3 with h3 | h3 | h3
  · rw [h3, show j = j / 3 * 3 from by omega]; simpa using hf.1
  · rw [h3, show j = j / 3 * 3 + 1 from by omega]; simpa using hf.2.1
  · rw [h3, show j = j / 3 * 3 + 2 from by omega]; simpa using hf.2.2

theorem made3 (n : Nat) : (madeCells #[.int .i64 0, .int .i64 0, .int .u64 0] (n * 3)).toList = flat (List.replicate n ((0, 0, 0) : C3)) := by
  apply List.ext_getElem?
  intro j
  by_cases hj : j < n * 3
  · rw [getElem?_flat_rep n j hj]
    have h3 : j % 3 = 0 ∨ j % 3 = 1 ∨ j % 3 = 2 := by omega
    rcases h3 with h3 | h3 | h3 <;> simp [madeCells, hj, h3]
  · rw [List.getElem?_eq_none (by simp [madeCells]; omega), List.getElem?_eq_none (by rw [length_flat]; simp; omega)]

theorem take_set (ts os : List C3) (k : Nat) (x : C3) (h : ts.take k = os.take k) (hx : os[k]? = some x) (hl : k < ts.length) : (ts.set k x).take (k + 1) = os.take (k + 1) := by
  obtain ⟨ho, rfl⟩ := List.getElem?_eq_some_iff.1 hx
  rw [List.take_succ_eq_append_getElem ho, ← h, List.take_succ_eq_append_getElem (by simpa using hl)]
  rw [List.take_set, List.set_eq_of_length_le (by simp; omega)]
  simp

theorem grown_in {w w1 w2 : World} {g : Nat} (h : w.grownBy w1 none) (h2 : w1.grownBy w2 (some g)) (hg : w.heap.size ≤ g) : w.grownBy w2 none :=
  ⟨h2.os.trans h.os, h2.tape.trans h.tape, h2.output.trans h.output, Nat.le_trans h.size h2.size, fun k hk _ => (h2.block k (Nat.lt_of_lt_of_le hk h.size) (fun e => by have := Option.some.inj e; omega)).trans (h.block k hk (by simp))⟩

theorem own_of_block {w w' : World} {B g cap n size : Nat} {e : TypeId} {xs : List Value} (h : w.ownsRow B e size (.slice (some ⟨g, 0, none⟩) n cap) n xs) (hb : w'.heap[g]? = w.heap[g]?) : w'.ownsRow B e size (.slice (some ⟨g, 0, none⟩) n cap) n xs := by
  refine ⟨h.1, ?_⟩
  rcases h.2 with ⟨h', _⟩ | ⟨g', cap', cur, h', h3, h4, h5⟩
  · simp at h'
  · simp only [Value.slice.injEq, Option.some.injEq, Addr.mk.injEq, and_true, true_and] at h'
    obtain ⟨rfl, rfl⟩ := h'
    exact .inr ⟨g, cap, cur, rfl, h3, hb.trans h4, h5⟩

theorem Sim.grown {w w' : World} {B p T n : Nat} {r : Nat → Int} {dur now : Int} {v : Value} (h : Sim w B p T n r dur now v) (hg : w.grownBy w' none) : Sim w' B p T n r dur now v := by
  have hp : p < w.heap.size := block_lt_of_cell h.cp
  have hb := hg.block p hp (by simp)
  exact ⟨h.ge, h.ne, (World.cell?_of_block (a := ⟨p, 4, none⟩) hb).trans h.cd, (World.cell?_of_block (a := ⟨p, 28, none⟩) hb).trans h.ct, (World.cell?_of_block (a := ⟨p, 30, none⟩) hb).trans h.cn, (World.cell?_of_block (a := ⟨p, 31, none⟩) hb).trans h.cp,
    (World.frozen?_of_block (a := ⟨p, 31, none⟩) hb).trans h.fp, h.ts.kept hg (by simp)⟩

theorem Sim.laid {w : World} {B p T n : Nat} {r : Nat → Int} {dur now : Int} {v : Value} (h : Sim w B p T n r dur now v) (u : Value) : Sim (w.setCell ⟨p, 31, none⟩ u) B p T n r dur now u :=
  ⟨h.ge, h.ne, (World.cell?_setCell_other w _ ⟨p, 4, none⟩ u (by simp)).trans h.cd, (World.cell?_setCell_other w _ ⟨p, 28, none⟩ u (by simp)).trans h.ct, (World.cell?_setCell_other w _ ⟨p, 30, none⟩ u (by simp)).trans h.cn,
    World.cell?_setCell_same' w _ u (by rw [h.cp]; rfl), (World.frozen?_setCell ..).trans h.fp, h.ts.kept (grownBy_setCell p 31 w u) (fun e => h.ne (by simpa using e.symm))⟩

theorem Sim.movedBy {w w' : World} {B p T n : Nat} {r : Nat → Int} {dur now : Int} {v v' : Value} {ob : Option Nat} (h : Sim w B p T n r dur now v) (hm : Moves w w' p ob) (hT : some T ≠ ob) (hc : w'.cell? ⟨p, 31, none⟩ = some v') : Sim w' B p T n r dur now v' := by
  refine ⟨h.ge, h.ne, (hm.cell 4 (by decide)).trans h.cd, (hm.cell 28 (by decide)).trans h.ct, (hm.cell 30 (by decide)).trans h.cn, hc, (hm.fz 31).trans h.fp, ?_⟩
  obtain ⟨xs, h1, h2⟩ := h.ts
  have hTl := (h1.lt T rfl).2
  have hb := hm.block T hTl (Ne.symm h.ne) hT
  exact ⟨xs, own_of_block h1 hb, h2⟩

theorem Moves.belowBy {w w' : World} {p B g : Nat} (h : Moves w w' p (some g)) (hp : B ≤ p) (hg : B ≤ g) (hB : B ≤ w.heap.size) : Below B w w' :=
  ⟨h.os, h.tape, h.output, h.size, fun k hk => h.block k (by omega) (by omega) (fun e => by have := Option.some.inj e; omega)⟩

theorem below_grown {B : Nat} {w w1 w2 : World} (h : Below B w w1) (hg : w1.grownBy w2 none) (hB : B ≤ w1.heap.size) : Below B w w2 :=
  h.grown hg hB (fun r e => by cases e)

theorem size63 : (Yba.prog.info? 63).map (·.size) = some 3 := by kernel_rfl

/-- 'pend := make(completions, k); copy(pend, before)'. -/
theorem pend_laid {w1 wr w3 : World} {B g k : Nat} {os : List C3} {ys : List Value} (hl : os.length = k) (hgr : w1.grownBy wr none) (hgl : g < wr.heap.size) (hw : w1.heap.size ≤ wr.heap.size) (hb : own3 wr B g k k os) (hg3 : wr.grownBy w3 none) (hp : w3.ownsRow B 63 3 (.slice (some ⟨wr.heap.size, 0, none⟩) k k) k ys) :
    ∃ w4, (Builtin.copy_ #[45, 45] 3 #[.slice (some ⟨wr.heap.size, 0, none⟩) k k, .slice (some ⟨g, 0, none⟩) k k]).run Yba.prog w3 = .ok (goInt k) w4 ∧ own3 w4 B wr.heap.size k k os ∧ own3 w4 B g k k os ∧ w1.grownBy w4 none := by
  have hb3 : own3 w3 B g k k os := World.ownsRow.kept hb hg3 (.inr (by simp [Value.ownBlock]))
  obtain ⟨w4, h1, h2, h3⟩ := run_copy_full (P := Yba.prog) w3 45 45 3 63 B 3 wr.heap.size k k k ⟨g, 0, none⟩ ys (flat os) Yba.underlying45 size63 hp (by rw [length_flat, hl]) (World.ownsRow.cells hb3 rfl) (flat_one_cell os)
  refine ⟨w4, h1, h2, World.ownsRow.kept hb3 h3 (.inr (by simp [Value.ownBlock]; omega)), ?_⟩
  exact grown_in (World.grownBy.more hgr hg3) h3 hw
end Go.Proofs.Ybulkgek
