/-
  Seat b0348a: completions' Less and Swap, heap.up over a row of completions, walked.
-/
import Derived.Test.YbulkgekRow3
import Derived.Test.YbulkgekHeap
import Derived.BigRegion
namespace Go.Proofs.Ybulkgek
open Go.RowKit Go.Lib

abbrev own3 (w : World) (B g cp n : Nat) (cs : List C3) : Prop := w.ownsRow B 63 3 (.slice (some ⟨g, 0, none⟩) n cp) n (flat cs)

theorem own3.get {w : World} {B g cp n : Nat} {cs : List C3} (h : own3 w B g cp n cs) (hn : cs.length = n) (k : Nat) (hk : k < n) :
    ∃ a t r, cs[k]? = some (a, t, r) ∧ w.cell? ⟨g, k * 3, none⟩ = some (.int .i64 a) ∧ w.cell? ⟨g, k * 3 + 1, none⟩ = some (.int .i64 t) ∧ w.cell? ⟨g, k * 3 + 2, none⟩ = some (.int .u64 r) := by
  subst hn
  have hf := flat_get cs k hk
  refine ⟨cs[k].1, cs[k].2.1, cs[k].2.2, List.getElem?_eq_getElem hk, ?_, ?_, ?_⟩
  · rw [h.cellAt _ (by omega)]; exact hf.1
  · rw [h.cellAt _ (by omega)]; exact hf.2.1
  · rw [h.cellAt _ (by omega)]; exact hf.2.2

set_option maxRecDepth 20000 in
set_option maxHeartbeats 400000 in
theorem less33 (B g cp n i j : Nat) (cs : List C3) (w : World) (h : own3 w B g cp n cs) (hn : cs.length = n) (hi : i < n) (hj : j < n) :
    Calls Yba.prog 33 #[.slice (some ⟨g, 0, none⟩) n cp, .int .i64 (i : Nat), .int .i64 (j : Nat)] w fun e w' => (∃ b, e = .returned (.bool b)) ∧ ∃ q, w' = w.drewN q := by
  obtain ⟨ai, ti, ri, _, i0, i1, i2⟩ := h.get hn i hi
  obtain ⟨aj, tj, rj, _, j0, j1, j2⟩ := h.get hn j hj
  have hd : decide (i < n) = true := decide_eq_true hi
  have hd2 : decide (j < n) = true := decide_eq_true hj
  have hii : (i : Int) < (n : Int) := by omega
  have hji : (j : Int) < (n : Int) := by omega
  clear h
  by_cases e : ai = aj
  · go_enter Yba.func33, Yba.ntmps33
    go_wp2
    go_quiet (fail)
    go_wp2
    go_quiet (fail)
    go_wp2
    go_ret
    exact ⟨⟨_, rfl⟩, _, World.drewN_drewN _ _ _⟩
  · go_enter Yba.func33, Yba.ntmps33
    go_wp2
    go_quiet (fail)
    go_wp2
    go_quiet (fail)
    go_wp2
    go_ret
    exact ⟨⟨_, rfl⟩, _, World.drewN_drewN _ _ _⟩

theorem World.grownBy.more {w w1 w2 : World} {row : Option Nat} (h1 : w.grownBy w1 row) (h2 : w1.grownBy w2 row) : w.grownBy w2 row :=
  ⟨h2.os.trans h1.os, h2.tape.trans h1.tape, h2.output.trans h1.output, Nat.le_trans h1.size h2.size, fun k hk hne => (h2.block k (Nat.lt_of_lt_of_le hk h1.size) hne).trans (h1.block k hk hne)⟩

theorem grownBy_drewN {w w1 : World} {row : Option Nat} (h1 : w.grownBy w1 row) (q : Nat) : w.grownBy (w1.drewN q) row :=
  ⟨h1.os, h1.tape, h1.output, h1.size, h1.block⟩

theorem own3.put {w : World} {B g cp n : Nat} {cs : List C3} (h : own3 w B g cp n cs) (k : Nat) (a t r : Int) :
    own3 (((w.setCell ⟨g, k * 3, none⟩ (.int .i64 a)).setCell ⟨g, k * 3 + 1, none⟩ (.int .i64 t)).setCell ⟨g, k * 3 + 2, none⟩ (.int .u64 r)) B g cp n (cs.set k (a, t, r)) ∧
      w.grownBy (((w.setCell ⟨g, k * 3, none⟩ (.int .i64 a)).setCell ⟨g, k * 3 + 1, none⟩ (.int .i64 t)).setCell ⟨g, k * 3 + 2, none⟩ (.int .u64 r)) (some g) := by
  have h1 := h.stored (k * 3) (.int .i64 a)
  have h2 := h1.1.stored (k * 3 + 1) (.int .i64 t)
  have h3 := h2.1.stored (k * 3 + 2) (.int .u64 r)
  refine ⟨?_, World.grownBy.more (World.grownBy.more h1.2 h2.2) h3.2⟩
  have h4 := h3.1
  rw [flat_set cs k (a, t, r)] at h4
  exact h4

theorem grownBy_drew {w w1 : World} {row : Option Nat} (h1 : w.grownBy w1 row) : w.grownBy w1.drew row :=
  ⟨h1.os, h1.tape, h1.output, h1.size, h1.block⟩

theorem own3.swapped {w : World} {B g cp n : Nat} {cs : List C3} (h : own3 w B g cp n cs) (hn : cs.length = n) (i j : Nat) (hi : i < n) (hj : j < n) {ai ti ri aj tj rj : Int} (ci : cs[i]? = some (ai, ti, ri)) (cj : cs[j]? = some (aj, tj, rj)) :
    w.grownBy ((((((w.setCell ⟨g, i * 3, none⟩ (.int .i64 aj)).setCell ⟨g, i * 3 + 1, none⟩ (.int .i64 tj)).setCell ⟨g, i * 3 + 2, none⟩ (.int .u64 rj)).setCell ⟨g, j * 3, none⟩ (.int .i64 ai)).setCell ⟨g, j * 3 + 1, none⟩ (.int .i64 ti)).setCell ⟨g, j * 3 + 2, none⟩ (.int .u64 ri)).drew (some g) ∧
      ∃ ds, ds.Perm cs ∧ own3 ((((((w.setCell ⟨g, i * 3, none⟩ (.int .i64 aj)).setCell ⟨g, i * 3 + 1, none⟩ (.int .i64 tj)).setCell ⟨g, i * 3 + 2, none⟩ (.int .u64 rj)).setCell ⟨g, j * 3, none⟩ (.int .i64 ai)).setCell ⟨g, j * 3 + 1, none⟩ (.int .i64 ti)).setCell ⟨g, j * 3 + 2, none⟩ (.int .u64 ri)).drew B g cp n ds := by
  subst hn
  have p1 := h.put i aj tj rj
  have p2 := p1.1.put j ai ti ri
  refine ⟨grownBy_drew (World.grownBy.more p1.2 p2.2), _, ?_, World.ownsRow.drew p2.1⟩
  have ei : (ai, ti, ri) = cs[i] := by
    rw [List.getElem?_eq_getElem hi] at ci; exact (Option.some.inj ci).symm
  have ej : (aj, tj, rj) = cs[j] := by
    rw [List.getElem?_eq_getElem hj] at cj; exact (Option.some.inj cj).symm
  rw [ei, ej]
  exact swap_perm cs i j _ _

set_option maxRecDepth 20000 in
set_option maxHeartbeats 400000 in
theorem swap34 (B g cp n i j : Nat) (cs : List C3) (w : World) (h : own3 w B g cp n cs) (hn : cs.length = n) (hi : i < j) (hj : j < n) :
    Calls Yba.prog 34 #[.slice (some ⟨g, 0, none⟩) n cp, .int .i64 (i : Nat), .int .i64 (j : Nat)] w fun e w' => (∃ x, e = .returned x) ∧ w.grownBy w' (some g) ∧ ∃ ds, ds.Perm cs ∧ own3 w' B g cp n ds := by
  obtain ⟨ai, ti, ri, ci, i0, i1, i2⟩ := h.get hn i (by omega)
  obtain ⟨aj, tj, rj, cj, j0, j1, j2⟩ := h.get hn j hj
  have f0 := h.frozenAt (i * 3)
  have f1 := h.frozenAt (i * 3 + 1)
  have f2 := h.frozenAt (i * 3 + 2)
  have f3 := h.frozenAt (j * 3)
  have f4 := h.frozenAt (j * 3 + 1)
  have f5 := h.frozenAt (j * 3 + 2)
  have hd : decide (i < n) = true := decide_eq_true (by omega)
  have hd2 : decide (j < n) = true := decide_eq_true hj
  have hii : (i : Int) < (n : Int) := by omega
  have hji : (j : Int) < (n : Int) := by omega
  have HH : Hid (own3 w B g cp n cs) := h
  clear h
  go_enter Yba.func34, Yba.ntmps34
  go_wp2
  go_region
  go_end0
  have hs := HH.out.swapped hn i j (by omega) hj ci cj
  exact ⟨⟨_, rfl⟩, hs⟩

set_option maxRecDepth 20000 in
set_option maxHeartbeats 400000 in
theorem up_row (B p g cp n j : Nat) (cs : List C3) (w : World) (hc : w.cell? ⟨p, 31, none⟩ = some (.slice (some ⟨g, 0, none⟩) n cp)) (h : own3 w B g cp n cs) (hn : cs.length = n) (hm : n ≤ 1000) (hj : j < n) (hpg : p ≠ g) :
    Calls Yba.prog 11 #[.iface 72 (.pointer (some ⟨p, 31, none⟩)), .int .i64 (j : Nat)] w fun e w' => (∃ x, e = .returned x) ∧ w.grownBy w' (some g) ∧ ∃ ds, ds.Perm cs ∧ own3 w' B g cp n ds := by
  have hpl : p < w.heap.size := block_lt_of_cell hc
  have HH : Hid (own3 w B g cp n cs) := h
  clear h
  go_enter Yba.func11, Yba.ntmps11
  go_wp2_with fail
  go_loopg [1] j (fun gh v wr => ∃ k : Nat, v = .int .i64 (k : Nat) ∧ k < n ∧ gh = k ∧ w.grownBy wr (some g) ∧ ∃ ds, ds.Perm cs ∧ own3 wr B g cp n ds)
  case atStart => exact ⟨j, rfl, hj, rfl, ⟨rfl, rfl, rfl, Nat.le_refl _, fun _ _ _ => rfl⟩, cs, .refl _, HH.out⟩
  case round =>
    obtain ⟨k, rfl, hkn, hgh, hgr, ds, hpm, hown⟩ := hrel
    have hcw : wr.cell? ⟨p, 31, none⟩ = some (.slice (some ⟨g, 0, none⟩) n cp) := hgr.cell hc (by simpa using hpg)
    have HG : Hid (w.grownBy wr (some g)) := hgr
    have HP : Hid (ds.Perm cs) := hpm
    have HO : Hid (own3 wr B g cp n ds) := hown
    have hml := mLess ⟨p, 31, none⟩ _ wr hcw
    clear hgr hpm hown
    cases k with
    | zero =>
      go_wp2_with fail
      go_end0
      exact ⟨⟨_, rfl⟩, HG.out, ds, HP.out, HO.out⟩
    | succ k =>
      obtain ⟨m, hm2⟩ : ∃ m : Nat, m = k / 2 := ⟨_, rfl⟩
      have hmk : (k : Int) / 2 = (m : Int) := by omega
      have hmk1 : m < k + 1 := by omega
      have hne : ¬ (m : Int) = (k : Int) + 1 := by omega
      have hdl : ds.length = n := HP.out.length_eq.trans hn
      have HL : Hid (∀ (w : World) (h : own3 w B g cp n ds), Calls Yba.prog 33 #[.slice (some ⟨g, 0, none⟩) n cp, .int .i64 ((k : Int) + 1), .int .i64 (m : Nat)] w fun e w' => (∃ b, e = .returned (.bool b)) ∧ ∃ q, w' = w.drewN q) :=
        fun w h => less33 B g cp n (k + 1) m ds w h hdl hkn (by omega)
      clear hm2
      have HS : Hid (∀ (w : World) (h : own3 w B g cp n ds), Calls Yba.prog 34 #[.slice (some ⟨g, 0, none⟩) n cp, .int .i64 (m : Nat), .int .i64 ((k : Int) + 1)] w fun e w' => (∃ x, e = .returned x) ∧ w.grownBy w' (some g) ∧ ∃ ds', ds'.Perm ds ∧ own3 w' B g cp n ds') :=
        fun w h => swap34 B g cp n m (k + 1) ds w h hdl hmk1 hkn
      go_wp2_with (first | (go_at_call 33; refine (HL.out _ HO.out).mono ?_; rintro e w' ⟨⟨b, rfl⟩, q, rfl⟩; have hms := mSwap ⟨p, 31, none⟩ _ (wr.drewN q) hcw) | (go_at_call 34; refine (HS.out (wr.drewN q) HO.out).mono ?_; rintro e w' ⟨⟨x, rfl⟩, hgr2, ds2, hpm2, hown2⟩; have HG2 : Hid (World.grownBy _ w' (some g)) := hgr2; have HP2 : Hid (ds2.Perm ds) := hpm2; have HO2 : Hid (own3 w' B g cp n ds2) := hown2; clear hgr2 hpm2 hown2))
      · go_end0
        exact ⟨⟨_, rfl⟩, grownBy_drewN HG.out q, ds, HP.out, HO.out⟩
      · go_roundg m
        case measure => omega
        case rel => exact ⟨m, rfl, by omega, rfl, World.grownBy.more (grownBy_drewN HG.out q) HG2.out, ds2, HP2.out.trans HP.out, HO2.out⟩
end Go.Proofs.Ybulkgek
