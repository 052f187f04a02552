/-
  Seat b0338aD: from a row's premises to what the walks ask: the script's cells; math/bits' table; a start that fits.
-/
import Derived.Test.YbulkfzaDoorRows
import Derived.Test.YbulkfzaDoorBuild
import Derived.ProofKit
import Derived.OpenShut
import Derived.LaidMore
import Derived.Lib.LaidTab
import Derived.Deep.Slices
import Derived.Deep.Strs
import Derived.ChangeOld
import Derived.Stop.Joined
namespace Go.Proofs.YbulkfzaDoor
open Go.ChangeShapes Go.WideShapes Go.ChangeAt Go.WideElems Go.RowKit Go.Deep

theorem own : ownKnob Ybad.prog.godebug = none := by kernel_rfl
theorem laidOut : laidOutB Ybad.prog = true := by kernel_rfl
theorem cells44 : Ybad.prog.cellsOf 44 = 3 := by kernel_rfl
theorem cells5 : Ybad.prog.cellsOf 5 = 1 := by kernel_rfl
theorem cells42 : Ybad.prog.cellsOf 42 = 1 := by kernel_rfl
theorem cells2 : Ybad.prog.cellsOf 2 = 1 := by kernel_rfl
/-- The listed variable. -/
abbrev tabName : String := Rows.lawS0338AOrderRow.named.headD ""
theorem gTab : Ybad.prog.globalNamed tabName = some 0 := by kernel_rfl
theorem tTab : (Ybad.prog.globals[0]?).map (·.type) = some 49 := by kernel_rfl
theorem cells49 : Ybad.prog.cellsOf 49 = 64 := by kernel_rfl

abbrev theLaid : List (String × DataW Unit) := [(tabName, Rows.laid_math_bits_deBruijn64tab)]

/-- The door's own heap meets the condition. -/
theorem door_met (os : Os) (args : Array Value) : laidMetH Ybad.prog theLaid ((World.doorLaid Ybad.prog 14 os).forCall (fun _ _ => 0) ⟨#[], args, []⟩).memory :=
  laidMetH_of_parts3 (fuel := 8) (laidMet_of_run' 8 (by kernel_rfl) (by kernel_rfl)) (by kernel_rfl) (by kernel_rfl)

theorem tab_eq : Rows.laid_math_bits_deBruijn64tab = Lib.tabData (H := Unit) .u8 (Lib.deBruijn64tab.map fun n : Nat => (n : Int)) := by kernel_rfl

theorem tab_of_laid {W : World} (h : laidMetH Ybad.prog theLaid W) : TabAt 0 Lib.deBruijn64tab W ∧ 0 < W.heap.size := by
  rw [MakeChecks.laidMetH_plain _ _ _ (by kernel_rfl)] at h
  have h' : laidMet Ybad.prog [(tabName, Lib.tabData .u8 (Lib.deBruijn64tab.map fun n : Nat => (n : Int)))] W := by rw [← tab_eq]; exact h
  have hT := Lib.tabIs_of_head gTab tTab Ybad.underlying49 Ybad.underlying5 cells5 cells49 h'
  have hc : TabAt 0 Lib.deBruijn64tab W := by
    intro j hj
    have := hT.cell gTab j (by simpa using hj)
    rw [this]
    simp [List.getElem?_eq_getElem hj]
  exact ⟨hc, block_lt_of_cell (hc 0 (by decide))⟩

theorem cells_three {w : World} {a : Addr} {cs : List Value} (h : w.cells? 0 a 3 = some cs) : ∃ c0 c1 c2, cs = [c0, c1, c2] ∧ w.cell? (a.add 0) = some c0 ∧ w.cell? (a.add 1) = some c1 ∧ w.cell? (a.add 2) = some c2 := by
  simp only [World.cells?, Nat.zero_le, if_true, List.range_succ, List.range_zero, List.nil_append, List.cons_append, List.mapM_cons, List.mapM_nil] at h
  simp only [Option.bind_eq_bind, Option.bind_eq_some_iff, Option.pure_def, Option.some.injEq] at h
  obtain ⟨c0, h0, l1, ⟨c1, h1, l2, ⟨c2, h2, l3, rfl, rfl⟩, rfl⟩, rfl⟩ := h
  exact ⟨c0, c1, c2, rfl, h0, h1, h2⟩

/-- The script, as the walks ask it. -/
theorem ops_of {H : Type} {enc : TypeId × Value → H} {W : World} {a : Option Addr} {len cap : Nat} {d : DataW H} {ps : List MemPlace} (h : DataW.Trod enc Ybad.prog W 0 (fun _ => true) true 22 (.slice a len cap) d ps) : Ops W.heap.size W a len := by
  obtain ⟨fuel, hf⟩ := h
  rcases open_slice Ybad.underlying22 hf with ⟨hcs, _⟩ | ⟨x, l, c, m, n, D, Pl, hcs, _, hl, _, hm, _, hel⟩
  · simp [Value.cells] at hcs
    exact .inl hcs.2.1
  · simp [Value.cells] at hcs
    obtain ⟨rfl, rfl, rfl⟩ := hcs
    simp only [if_true] at hm
    by_cases h0 : len = 0
    · exact .inl h0
    right
    have get : ∀ k, k < len → ∃ (o A : Nat) (V : Int), o < 256 ∧ A < 65536 ∧ W.cell? ((x.add (k * 3)).add 0) = some (.int .u8 o) ∧ W.cell? ((x.add (k * 3)).add 1) = some (.int .u16 A) ∧ W.cell? ((x.add (k * 3)).add 2) = some (.int .i64 V) := by
      intro k hk
      obtain ⟨cs', h1, h2⟩ := hel k (by omega)
      rw [cells44] at h1
      obtain ⟨c0, c1, c2, rfl, g0, g1, g2⟩ := cells_three h1
      obtain ⟨y0, y1, y2, n', _, _, t0, t1, t2⟩ := trod_struct3 Ybad.underlying44 h2
      simp only [cells5, cells42, cells2, List.drop_zero, List.take_succ_cons, List.take_zero, List.drop_succ_cons] at t0 t1 t2
      obtain ⟨o, e0, _, w0⟩ := DataW.trod_int Ybad.underlying5 t0
      obtain ⟨A, e1, _, w1⟩ := DataW.trod_int Ybad.underlying42 t1
      obtain ⟨V, e2, _, _⟩ := DataW.trod_int Ybad.underlying2 t2
      simp only [List.cons.injEq, and_true] at e0 e1 e2
      subst e0; subst e1; subst e2
      have b0 : 0 ≤ o ∧ o < 256 := by have := bounds_u8 w0; omega
      have b1 : 0 ≤ A ∧ A < 65536 := by have := bounds_u16 w1; omega
      refine ⟨o.toNat, A.toNat, V, by omega, by omega, ?_, ?_, g2⟩
      · rw [g0, Int.toNat_of_nonneg b0.1]
      · rw [g1, Int.toNat_of_nonneg b1.1]
    obtain ⟨b, off, spot⟩ := x
    obtain ⟨o, A, V, _, _, g0, _, _⟩ := get 0 (by omega)
    have hsp : spot = none := by simpa [Addr.add] using World.cell?_spot g0
    subst hsp
    refine ⟨b, off, rfl, ?_, ?_⟩
    · have := block_lt_of_cell g0
      simpa [Addr.add] using this
    · intro k hk
      obtain ⟨o, A, V, ho, hA, g0, g1, g2⟩ := get k hk
      simp only [Addr.add_lit, Nat.add_zero] at g0 g1 g2
      exact ⟨o, A, V, ho, hA, g0, g1, g2⟩
end Go.Proofs.YbulkfzaDoor
