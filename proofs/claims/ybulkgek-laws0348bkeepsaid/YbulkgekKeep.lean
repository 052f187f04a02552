/-
  Seat b0348a: 'LawS0348BKeep', walked.
-/
import Derived.Test.YbulkgekKeepKit
namespace Go.Proofs.Ybulkgek
open Go.RowKit Go.Lib

theorem wrapN (n : Int) (h0 : 0 ≤ n) (h1 : n ≤ 1000) : IntKind.i64.wrap n = n := by rw [IntKind.wrap_i64]; omega

set_option maxRecDepth 20000 in
set_option maxHeartbeats 1000000 in
theorem keep_core (dur now d X : Int) (sel i : Nat) (r : Nat → Int) (a : Option Addr) (len cap : Nat) (ao : Option Addr) (no co : Nat) (os : List C3) (w : World) (hl : (len : Int) ≤ 1024) (hno : (no : Int) ≤ 256) (h0 : 0 ≤ now) (h1 : now ≤ dur) (h2 : dur ≤ 9223372036854775807) (hd0 : -9223372036854775808 ≤ d) (hs : sel < 18446744073709551616) (hi : i = sel % (len + 1))
    (hR : Runs w.heap.size w a len r) (hO : Olds w.heap.size w ao no os) (hX : (d ≤ dur - now ∧ X = now + d) ∨ (dur - now < d ∧ X = wrap64 (dur + 1)))
    (hA : ∀ w, Calls Yba.prog 7 #[.int .i64 dur, .int .i64 now, .int .i64 d] w fun e w' => e = .returned (.int .i64 X) ∧ w' = w) :
    Calls Yba.prog 4 #[.int .i64 dur, .int .i64 now, .int .i64 d, .int .u64 (r 0), .slice a len cap, .int .u64 (sel : Nat), .slice ao no co] w fun e w' => e = .returned (.bool true) ∧ Below w.heap.size w w' := by
  have hin : i ≤ len := by have := Nat.mod_lt sel (show 0 < len + 1 by omega); omega
  have hsi : (sel : Int) % ((len : Int) + 1) = (i : Int) := by rw [hi]; simp
  have HX : Hid ((d ≤ dur - now ∧ X = now + d) ∨ (dur - now < d ∧ X = wrap64 (dur + 1))) := hX
  have HA : Hid (∀ w, Calls Yba.prog 7 #[.int .i64 dur, .int .i64 now, .int .i64 d] w fun e w' => e = .returned (.int .i64 X) ∧ w' = w) := hA
  have HR : Hid (Runs w.heap.size w a len r) := hR
  have HO : Hid (Olds w.heap.size w ao no os) := hO
  obtain ⟨i63, hi63, z0, z1, z2⟩ := info_parts info63
  clear hX hA hR hO hi
  go_enter Yba.func4, Yba.ntmps4
  go_wp2_with fail
  refine (make_call dur now r a len cap w hl HR.out).mono ?_
  rintro e w1 ⟨T, p, rfl, hS, hB1⟩
  have HS : Hid (Sim w1 w.heap.size p T len r dur now (.slice none 0 0)) := hS
  have HB1 : Hid (Below w.heap.size w w1) := hB1
  clear hS hB1
  dsimp only
  go_wp2_with (refine wpList_make_full _ rfl _ _ 45 rfl w.heap.size 63 i63 (.agg #[.int .i64 0, .int .i64 0, .int .u64 0]) 3 Yba.underlying45 hi63 z0 z1 _ _ _ _ no rfl rfl (by omega) (by omega) (by rw [z2]; omega) (by unfold maxLen; omega) HB1.out.size ?_; intro w2 hown hgr; have HT : Hid (w2.ownsRow w.heap.size 63 3 (.slice (some ⟨w1.heap.size, 0, none⟩) no no) no (madeCells (Value.cells (.agg #[.int .i64 0, .int .i64 0, .int .u64 0])) (no * 3)).toList) := hown; have HG : Hid (w1.grownBy w2 none) := hgr; clear hgr hown)
  have HT1 : Hid (own3 w2 w.heap.size w1.heap.size no no (List.replicate no ((0, 0, 0) : C3))) := by
    have h := HT.out
    rw [show (Value.agg #[.int .i64 0, .int .i64 0, .int .u64 0]).cells = #[.int .i64 0, .int .i64 0, .int .u64 0] from rfl, made3] at h
    exact h
  clear HT
  have hol : os.length = no := HO.out.1
  go_loopg [17] no (fun gh v wr => ∃ k : Nat, v = .int .i64 (k : Nat) ∧ k ≤ no ∧ gh = no - k ∧ w1.grownBy wr none ∧ ∃ ts : List C3, ts.length = no ∧ ts.take k = os.take k ∧ own3 wr w.heap.size w1.heap.size no no ts)
  case atStart => exact ⟨0, rfl, Nat.zero_le _, rfl, HG.out, _, by simp, by simp, HT1.out⟩
  case round =>
    obtain ⟨k, rfl, hkl, hg, hgr, ts, htl, htk, hown⟩ := hrel
    have HGR : Hid (w1.grownBy wr none) := hgr
    have HTK : Hid (ts.take k = os.take k) := htk
    have HOW : Hid (own3 wr w.heap.size w1.heap.size no no ts) := hown
    clear hgr htk hown
    by_cases hlt : k < no
    · rcases HO.out.2 with hz | ⟨b, off, rfl, hb, hc⟩
      · omega
      · obtain ⟨⟨xa, xt, xr⟩, hx⟩ : ∃ x, os[k]? = some x := ⟨_, List.getElem?_eq_getElem (by omega)⟩
        have hbw : w.heap.size ≤ w1.heap.size := HB1.out.size
        have hbl : wr.heap[b]? = w.heap[b]? := (HGR.out.block b (by omega) (by simp)).trans (HB1.out.block b hb)
        have o0 : wr.cell? ⟨b, off + k * 3, none⟩ = some (.int .i64 xa) := (World.cell?_of_block (a := ⟨b, off + k * 3, none⟩) hbl).trans (hc k _ hx).1
        have o1 : wr.cell? ⟨b, off + k * 3 + 1, none⟩ = some (.int .i64 xt) := (World.cell?_of_block (a := ⟨b, off + k * 3 + 1, none⟩) hbl).trans (hc k _ hx).2.1
        have o2 : wr.cell? ⟨b, off + k * 3 + 2, none⟩ = some (.int .u64 xr) := (World.cell?_of_block (a := ⟨b, off + k * 3 + 2, none⟩) hbl).trans (hc k _ hx).2.2
        obtain ⟨ya, yt, yr, _, t0, t1, t2⟩ := HOW.out.get htl k hlt
        have f0 := HOW.out.frozenAt (k * 3)
        have f1 := HOW.out.frozenAt (k * 3 + 1)
        have f2 := HOW.out.frozenAt (k * 3 + 2)
        have HXK : Hid (os[k]? = some (xa, xt, xr)) := hx
        have hd : decide (k < no) = true := decide_eq_true hlt
        have hki : (k : Int) < (no : Int) := by omega
        clear hx hc hbl
        go_wp2_with fail
        go_region
        go_wp2_with fail
        go_roundg (no - (k + 1))
        case measure => omega
        case rel =>
          have hput := HOW.out.put k xa xt xr
          exact ⟨k + 1, rfl, hlt, rfl, grownBy_drew (grown_in HGR.out hput.2 (Nat.le_refl _)), ts.set k (xa, xt, xr), by simpa using htl, take_set ts os k _ HTK.out HXK.out (by omega), World.ownsRow.drew hput.1⟩
    · obtain rfl : k = no := by omega
      obtain rfl : ts = os := by
        have h := HTK.out
        rwa [List.take_of_length_le (by omega), List.take_of_length_le (by omega)] at h
      have hwsz := HGR.out.size
      have hw1 := HB1.out.size
      have HSr : Hid (Sim wr w.heap.size p T len r dur now (.slice none 0 0)) := HS.out.grown HGR.out
      have hpl : p < w1.heap.size := block_lt_of_cell HS.out.cp
      have hgl : w1.heap.size < wr.heap.size := by
        exact (HOW.out.lt _ rfl).2
      go_wp2_with (first | (refine wpList_make_full _ rfl _ _ 45 rfl w.heap.size 63 i63 (.agg #[.int .i64 0, .int .i64 0, .int .u64 0]) 3 Yba.underlying45 hi63 z0 z1 _ _ _ _ k rfl rfl (by omega) (by omega) (by rw [z2]; omega) (by unfold maxLen; omega) (by omega) ?_; intro w3 hown hgr; obtain ⟨w4, hcopy, hop, hob, hg4⟩ := pend_laid htl HGR.out hgl hwsz HOW.out hgr hown; have HOP : Hid (own3 w4 w.heap.size wr.heap.size k k ts) := hop; have HOB : Hid (own3 w4 w.heap.size w1.heap.size k k ts) := hob; have HG4 : Hid (w1.grownBy w4 none) := hg4; clear hgr hown hop hob hg4; have HS4 : Hid (Sim w4 w.heap.size p T len r dur now (.slice none 0 0)) := HS.out.grown HG4.out; have c31 := HS4.out.cp; have f31 := HS4.out.fp; have c28 := HS4.out.ct; have ci := HS4.out.ts.cell (m := i) (by omega) (Nat.le_refl _)) | fail)
      have HS5 : Hid (Sim (w4.setCell ⟨p, 31, none⟩ (.slice (some ⟨wr.heap.size, 0, none⟩) k k)) w.heap.size p T len r dur now (.slice (some ⟨wr.heap.size, 0, none⟩) k k)) := HS4.out.laid _
      have HOP5 : Hid (own3 (w4.setCell ⟨p, 31, none⟩ (.slice (some ⟨wr.heap.size, 0, none⟩) k k)) w.heap.size wr.heap.size k k ts) := World.ownsRow.kept HOP.out (grownBy_setCell p 31 w4 _) (.inr (by simp [Value.ownBlock]; omega))
      have HOB5 : Hid (own3 (w4.setCell ⟨p, 31, none⟩ (.slice (some ⟨wr.heap.size, 0, none⟩) k k)) w.heap.size w1.heap.size k k ts) := World.ownsRow.kept HOB.out (grownBy_setCell p 31 w4 _) (.inr (by simp [Value.ownBlock]; omega))
      have HB5 : Hid (Below w.heap.size w (w4.setCell ⟨p, 31, none⟩ (.slice (some ⟨wr.heap.size, 0, none⟩) k k))) := (below_grown HB1.out HG4.out hw1).setCell (p := ⟨p, 31, none⟩) HS.out.ge _
      clear hcopy c31 f31 c28 ci
      generalize w4.setCell ⟨p, 31, none⟩ (.slice (some ⟨wr.heap.size, 0, none⟩) k k) = w5 at HS5 HOP5 HOB5 HB5 ⊢
      have c28 := HS5.out.ct
      have ci := HS5.out.ts.cell (m := i) (by omega) (Nat.le_refl _)
      have n28 := World.new_ne w5 ⟨p, 28, none⟩ c28
      have nci := World.new_ne w5 ⟨T, i * 9 + 8, none⟩ ci
      have hd : decide (i < len + 1) = true := decide_eq_true (by omega)
      have hdi : (i : Int) < (len : Int) + 1 := by omega
      go_region_held3 (fun w' => w'.cell? ⟨p, 28, none⟩ = some (.slice (some ⟨T, 0, none⟩) (len + 1) (len + 1)) ∧ w'.cell? ⟨T, i * 9 + 8, none⟩ = some (.int .u64 (r i))) (go_keep) ((go_at_call 7; refine (HA.out _).mono ?_; rintro e w' ⟨rfl, rfl⟩))
      all_goals
        have HS6 : Hid (Sim (w5.alloc (.cells #[.int .i64 X, .int .i64 (i : Nat), .int .u64 (r i)] 63)).drew w.heap.size p T len r dur now (.slice (some ⟨wr.heap.size, 0, none⟩) k k)) := (HS5.out.alloc _).drewN 1
        have HOP6 : Hid (own3 (w5.alloc (.cells #[.int .i64 X, .int .i64 (i : Nat), .int .u64 (r i)] 63)).drew w.heap.size wr.heap.size k k ts) := World.ownsRow.drew (World.ownsRow.alloc HOP5.out _)
        have HOB6 : Hid (own3 (w5.alloc (.cells #[.int .i64 X, .int .i64 (i : Nat), .int .u64 (r i)] 63)).drew w.heap.size w1.heap.size k k ts) := World.ownsRow.drew (World.ownsRow.alloc HOB5.out _)
        have HB6 : Hid (Below w.heap.size w (w5.alloc (.cells #[.int .i64 X, .int .i64 (i : Nat), .int .u64 (r i)] 63)).drew) := (HB5.out.alloc HB5.out.size _).drew
        have HN : Hid ((w5.alloc (.cells #[.int .i64 X, .int .i64 (i : Nat), .int .u64 (r i)] 63)).drew.cell? ⟨w5.heap.size, 0, none⟩ = some (.int .i64 X) ∧ (w5.alloc (.cells #[.int .i64 X, .int .i64 (i : Nat), .int .u64 (r i)] 63)).drew.cell? ⟨w5.heap.size, 1, none⟩ = some (.int .i64 (i : Nat)) ∧ (w5.alloc (.cells #[.int .i64 X, .int .i64 (i : Nat), .int .u64 (r i)] 63)).drew.cell? ⟨w5.heap.size, 2, none⟩ = some (.int .u64 (r i))) := by
          refine ⟨?_, ?_, ?_⟩ <;> simp
        have hwb : wr.heap.size < w5.heap.size := (HOP5.out.lt _ rfl).2
        clear c28 ci n28 nci
        generalize w5.heap.size = wb at HN hwb ⊢
        generalize (w5.alloc (.cells #[.int .i64 X, .int .i64 (i : Nat), .int .u64 (r i)] 63)).drew = w6 at HS6 HOP6 HOB6 HB6 HN ⊢
        go_wp2_with fail
        have hTl : T < w1.heap.size := block_lt_of_cell (HS.out.ts.cell (m := i) (by omega) (Nat.le_refl _))
        have hwb6 : wb < w6.heap.size := block_lt_of_cell HN.out.1
        refine (endIn_row w.heap.size p T len i k (.slice (some ⟨wr.heap.size, 0, none⟩) k k) ts r dur now d X w6 hin h0 h1 h2 hd0 (Nat.le_trans HB6.out.size (Nat.le_refl _)) HS6.out HOP6.out htl (by omega) (by simp [Value.ownBlock]; omega) (by simp [Value.ownBlock]; omega) HX.out).mono ?_
        rintro e w7 ⟨⟨x, rfl⟩, g, cp, ds, a1, a2, a3, a4, hmv⟩
        have HPM : Hid (ds.Perm (ts ++ [((X, ((i : Nat) : Int), r i) : C3)])) := a2
        have hdl : ds.length = k + 1 := by rw [a2.length_eq]; simp [htl]
        have HOD : Hid (own3 w7 w.heap.size g cp (k + 1) ds) := a3
        have HOB7 : Hid (own3 w7 w.heap.size w1.heap.size k k ts) := own_of_block HOB6.out (hmv.block _ (by omega) (by omega) (by simp [Value.ownBlock]; omega))
        have HS7 : Hid (Sim w7 w.heap.size p T len r dur now (.slice (some ⟨g, 0, none⟩) (k + 1) cp)) := HS6.out.movedBy hmv (by simp [Value.ownBlock]; omega) a1
        have HB7 : Hid (Below w.heap.size w w7) := HB6.out.trans (Moves.belowBy (g := wr.heap.size) hmv HS.out.ge (by omega) HB6.out.size)
        have hwb7 : w7.heap[wb]? = w6.heap[wb]? := hmv.block wb hwb6 (by omega) (by simp [Value.ownBlock]; omega)
        have HN7 : Hid (w7.cell? ⟨wb, 0, none⟩ = some (.int .i64 X) ∧ w7.cell? ⟨wb, 1, none⟩ = some (.int .i64 (i : Nat)) ∧ w7.cell? ⟨wb, 2, none⟩ = some (.int .u64 (r i))) := ⟨(World.cell?_of_block (a := ⟨wb, 0, none⟩) hwb7).trans HN.out.1, (World.cell?_of_block (a := ⟨wb, 1, none⟩) hwb7).trans HN.out.2.1, (World.cell?_of_block (a := ⟨wb, 2, none⟩) hwb7).trans HN.out.2.2⟩
        have hgw : g < w7.heap.size := (a3.lt g rfl).2
        clear hmv hwb7 a2 a3
        dsimp only
        go_wp2_with fail
        go_loopg [21] (k + 1) (fun gh v wl => ∃ m : Nat, v = .int .i64 (m : Nat) ∧ m ≤ k + 1 ∧ gh = k + 1 - m ∧ w7.grownBy wl none)
        case atStart => exact ⟨0, rfl, Nat.zero_le _, rfl, ⟨rfl, rfl, rfl, Nat.le_refl _, fun _ _ _ => rfl⟩⟩
        case round =>
          obtain ⟨m, rfl, hml, hgh, hgr⟩ := hrel
          have HSL : Hid (Sim wr w.heap.size p T len r dur now (.slice (some ⟨g, 0, none⟩) (k + 1) cp)) := HS7.out.grown hgr
          have HODL : Hid (own3 wr w.heap.size g cp (k + 1) ds) := World.ownsRow.kept HOD.out hgr (.inr (by simp [Value.ownBlock]))
          have HOBL : Hid (own3 wr w.heap.size w1.heap.size k k ts) := World.ownsRow.kept HOB7.out hgr (.inr (by simp [Value.ownBlock]))
          have v0 : wr.cell? ⟨wb, 0, none⟩ = some (.int .i64 X) := hgr.cell HN7.out.1 (by simp)
          have v1 : wr.cell? ⟨wb, 1, none⟩ = some (.int .i64 (i : Nat)) := hgr.cell HN7.out.2.1 (by simp)
          have v2 : wr.cell? ⟨wb, 2, none⟩ = some (.int .u64 (r i)) := hgr.cell HN7.out.2.2 (by simp)
          have c31 := HSL.out.cp
          have HGL : Hid (w7.grownBy wr none) := hgr
          clear hgr
          by_cases hlt : m < k + 1
          · obtain ⟨xa, xt, xr, hx, x0, x1, x2⟩ := HODL.out.get hdl m hlt
            have HXM : Hid (ds[m]? = some (xa, xt, xr)) := hx
            have hnwb : wb ≠ wr.heap.size := Nat.ne_of_lt (block_lt_of_cell v0)
            have hnp : p ≠ wr.heap.size := Nat.ne_of_lt (block_lt_of_cell c31)
            have hng : g ≠ wr.heap.size := Nat.ne_of_lt (block_lt_of_cell x0)
            have hd : decide (m < k + 1) = true := decide_eq_true hlt
            have hki : (m : Int) < (k : Int) + 1 := by omega
            obtain ⟨b, hb⟩ : ∃ b, b = decide (((xa, xt, xr) : C3) = (X, ((i : Nat) : Int), r i)) := ⟨_, rfl⟩
            have hE : ∀ w, (binOp .eql 63 (.agg #[.int .i64 xa, .int .i64 xt, .int .u64 xr]) (.agg #[.int .i64 X, .int .i64 (i : Nat), .int .u64 (r i)])).run Yba.prog w = .ok (.bool b) w := fun w => by rw [hb]; exact eql63 xa xt xr X i (r i) w
            have HBB : Hid (b = decide (((xa, xt, xr) : C3) = (X, ((i : Nat) : Int), r i))) := hb
            have y0 : (wr.alloc (.cells #[.int .i64 xa, .int .i64 xt, .int .u64 xr] 63)).cell? ⟨wb, 0, none⟩ = some (.int .i64 X) := (World.cell?_alloc_lt wr _ ⟨wb, 0, none⟩ (block_lt_of_cell v0)).trans v0
            have y1 : (wr.alloc (.cells #[.int .i64 xa, .int .i64 xt, .int .u64 xr] 63)).cell? ⟨wb, 1, none⟩ = some (.int .i64 (i : Nat)) := (World.cell?_alloc_lt wr _ ⟨wb, 1, none⟩ (block_lt_of_cell v1)).trans v1
            have y2 : (wr.alloc (.cells #[.int .i64 xa, .int .i64 xt, .int .u64 xr] 63)).cell? ⟨wb, 2, none⟩ = some (.int .u64 (r i)) := (World.cell?_alloc_lt wr _ ⟨wb, 2, none⟩ (block_lt_of_cell v2)).trans v2
            have y3 : (wr.alloc (.cells #[.int .i64 xa, .int .i64 xt, .int .u64 xr] 63)).cell? ⟨p, 31, none⟩ = some (.slice (some ⟨g, 0, none⟩) (k + 1) cp) := (World.cell?_alloc_lt wr _ ⟨p, 31, none⟩ (block_lt_of_cell c31)).trans c31
            have q0 : (wr.alloc (.cells #[.int .i64 xa, .int .i64 xt, .int .u64 xr] 63)).cell? ⟨wr.heap.size, 0, none⟩ = some (.int .i64 xa) := by simp
            have q1 : (wr.alloc (.cells #[.int .i64 xa, .int .i64 xt, .int .u64 xr] 63)).cell? ⟨wr.heap.size, 1, none⟩ = some (.int .i64 xt) := by simp
            have q2 : (wr.alloc (.cells #[.int .i64 xa, .int .i64 xt, .int .u64 xr] 63)).cell? ⟨wr.heap.size, 2, none⟩ = some (.int .u64 xr) := by simp
            have HOD8 : Hid (own3 (wr.alloc (.cells #[.int .i64 xa, .int .i64 xt, .int .u64 xr] 63)) w.heap.size g cp (k + 1) ds) := World.ownsRow.alloc HODL.out _
            have HOB8 : Hid (own3 (wr.alloc (.cells #[.int .i64 xa, .int .i64 xt, .int .u64 xr] 63)) w.heap.size w1.heap.size k k ts) := World.ownsRow.alloc HOBL.out _
            have HG8 : Hid (w7.grownBy (wr.alloc (.cells #[.int .i64 xa, .int .i64 xt, .int .u64 xr] 63)) none) := World.grownBy.more HGL.out (World.grownBy_alloc wr _ none)
            obtain ⟨c2, hc2⟩ : ∃ c2, c2 = ts.count ((xa, xt, xr) : C3) := ⟨_, rfl⟩
            have hc2l : (c2 : Int) ≤ 256 := by
              have := List.count_le_length (a := ((xa, xt, xr) : C3)) (l := ts)
              omega
            have HC2N : Hid (ts.count ((xa, xt, xr) : C3) = c2) := hc2.symm
            have HCL : Hid (ds.count ((xa, xt, xr) : C3) = c2 + if ((xa, xt, xr) : C3) = (X, ((i : Nat) : Int), r i) then 1 else 0) := by
              rw [hc2]; exact count_law ts ds _ _ HPM.out
            clear hb hx v0 v1 v2 hc2
            cases b with
            | true =>
              have HCN : Hid (ds.count ((xa, xt, xr) : C3) = c2 + 1) := by
                have h := HCL.out
                rwa [if_pos (of_decide_eq_true HBB.out.symm)] at h
              go_wp2_with fail
              generalize wr.heap.size = cb at q0 q1 q2 ⊢
              generalize (wr.alloc (.cells #[.int .i64 xa, .int .i64 xt, .int .u64 xr] 63)) = w8 at q0 q1 q2 y3 HOD8 HOB8 HG8 ⊢
              have HC1 : Hid (∀ w', w8.grownBy w' none → Calls Yba.prog 9 #[.slice (some ⟨g, 0, none⟩) (k + 1) cp, .agg #[.int .i64 xa, .int .i64 xt, .int .u64 xr]] w' fun e w'' => e = .returned (.int .i64 ((c2 + 1 : Nat) : Int)) ∧ w8.grownBy w'' none) := by
                intro w' hg
                refine (count9 w.heap.size g cp (k + 1) ds xa xt xr w' (World.ownsRow.kept HOD8.out hg (.inr (by simp [Value.ownBlock]))) hdl (by omega)).mono ?_
                rintro e w'' ⟨rfl, hg2⟩
                exact ⟨by rw [HCN.out], World.grownBy.more hg hg2⟩
              have HC2 : Hid (∀ w', w8.grownBy w' none → Calls Yba.prog 9 #[.slice (some ⟨w1.heap.size, 0, none⟩) k k, .agg #[.int .i64 xa, .int .i64 xt, .int .u64 xr]] w' fun e w'' => e = .returned (.int .i64 (c2 : Nat)) ∧ w8.grownBy w'' none) := by
                intro w' hg
                refine (count9 w.heap.size w1.heap.size k k ts xa xt xr w' (World.ownsRow.kept HOB8.out hg (.inr (by simp [Value.ownBlock]))) htl (by omega)).mono ?_
                rintro e w'' ⟨rfl, hg2⟩
                exact ⟨by rw [HC2N.out], World.grownBy.more hg hg2⟩
              clear hE y0 y1 y2 x0 x1 x2 c31 hnwb hnp hng HCL HBB HXM HODL HOBL HSL HGL
              go_region_held3 (fun w' => w'.cell? ⟨p, 31, none⟩ = some (.slice (some ⟨g, 0, none⟩) (k + 1) cp) ∧ w'.cell? ⟨cb, 0, none⟩ = some (.int .i64 xa) ∧ w'.cell? ⟨cb, 1, none⟩ = some (.int .i64 xt) ∧ w'.cell? ⟨cb, 2, none⟩ = some (.int .u64 xr)) (first | (refine ⟨?_, ?_, ?_, ?_⟩ <;> assumption) | go_keep) (first | (go_at_call 9; have hq := hgx; refine (HC2.out _ ?_).mono ?_; (exact hq); rintro e wy ⟨rfl, hgy⟩; have k4 := hgy.cell y3 (by simp); have k5 := hgy.cell q0 (by simp); have k6 := hgy.cell q1 (by simp); have k7 := hgy.cell q2 (by simp)) | (go_at_call 9; refine (HC1.out _ ?_).mono ?_; (exact ⟨rfl, rfl, rfl, Nat.le_refl _, fun _ _ _ => rfl⟩); rintro e wx ⟨rfl, hgx⟩; have k0 := hgx.cell y3 (by simp); have k1 := hgx.cell q0 (by simp); have k2 := hgx.cell q1 (by simp); have k3 := hgx.cell q2 (by simp)))
              rw [wrapN ((c2 : Int) + 1) (by omega) (by omega)]
              simp only [bne_self_eq_false]
              go_wp2_with fail
              go_roundg (k + 1 - (m + 1))
              case measure => omega
              case rel => exact ⟨m + 1, rfl, hlt, rfl, World.grownBy.more HG8.out hgy⟩
            | false =>
              have HCN : Hid (ds.count ((xa, xt, xr) : C3) = c2) := by
                have h := HCL.out
                rwa [if_neg (of_decide_eq_false HBB.out.symm)] at h
              go_wp2_with fail
              generalize wr.heap.size = cb at q0 q1 q2 ⊢
              generalize (wr.alloc (.cells #[.int .i64 xa, .int .i64 xt, .int .u64 xr] 63)) = w8 at q0 q1 q2 y3 HOD8 HOB8 HG8 ⊢
              have HC1 : Hid (∀ w', w8.grownBy w' none → Calls Yba.prog 9 #[.slice (some ⟨g, 0, none⟩) (k + 1) cp, .agg #[.int .i64 xa, .int .i64 xt, .int .u64 xr]] w' fun e w'' => e = .returned (.int .i64 (c2 : Nat)) ∧ w8.grownBy w'' none) := by
                intro w' hg
                refine (count9 w.heap.size g cp (k + 1) ds xa xt xr w' (World.ownsRow.kept HOD8.out hg (.inr (by simp [Value.ownBlock]))) hdl (by omega)).mono ?_
                rintro e w'' ⟨rfl, hg2⟩
                exact ⟨by rw [HCN.out], World.grownBy.more hg hg2⟩
              have HC2 : Hid (∀ w', w8.grownBy w' none → Calls Yba.prog 9 #[.slice (some ⟨w1.heap.size, 0, none⟩) k k, .agg #[.int .i64 xa, .int .i64 xt, .int .u64 xr]] w' fun e w'' => e = .returned (.int .i64 (c2 : Nat)) ∧ w8.grownBy w'' none) := by
                intro w' hg
                refine (count9 w.heap.size w1.heap.size k k ts xa xt xr w' (World.ownsRow.kept HOB8.out hg (.inr (by simp [Value.ownBlock]))) htl (by omega)).mono ?_
                rintro e w'' ⟨rfl, hg2⟩
                exact ⟨by rw [HC2N.out], World.grownBy.more hg hg2⟩
              clear hE y0 y1 y2 x0 x1 x2 c31 hnwb hnp hng HCL HBB HXM HODL HOBL HSL HGL
              go_region_held3 (fun w' => w'.cell? ⟨p, 31, none⟩ = some (.slice (some ⟨g, 0, none⟩) (k + 1) cp) ∧ w'.cell? ⟨cb, 0, none⟩ = some (.int .i64 xa) ∧ w'.cell? ⟨cb, 1, none⟩ = some (.int .i64 xt) ∧ w'.cell? ⟨cb, 2, none⟩ = some (.int .u64 xr)) (first | (refine ⟨?_, ?_, ?_, ?_⟩ <;> assumption) | go_keep) (first | (go_at_call 9; have hq := hgx; refine (HC2.out _ ?_).mono ?_; (exact hq); rintro e wy ⟨rfl, hgy⟩; have k4 := hgy.cell y3 (by simp); have k5 := hgy.cell q0 (by simp); have k6 := hgy.cell q1 (by simp); have k7 := hgy.cell q2 (by simp)) | (go_at_call 9; refine (HC1.out _ ?_).mono ?_; (exact ⟨rfl, rfl, rfl, Nat.le_refl _, fun _ _ _ => rfl⟩); rintro e wx ⟨rfl, hgx⟩; have k0 := hgx.cell y3 (by simp); have k1 := hgx.cell q0 (by simp); have k2 := hgx.cell q1 (by simp); have k3 := hgx.cell q2 (by simp)))
              rw [wrapN (c2 : Int) (by omega) (by omega)]
              simp only [bne_self_eq_false]
              go_wp2_with fail
              go_roundg (k + 1 - (m + 1))
              case measure => omega
              case rel => exact ⟨m + 1, rfl, hlt, rfl, World.grownBy.more HG8.out hgy⟩
          · obtain rfl : m = k + 1 := by omega
            go_wp2_with fail
            have HBL : Hid (Below w.heap.size w wr) := below_grown HB7.out HGL.out HB7.out.size
            refine (kept_call w.heap.size p T len cap r dur now _ a wr hl HSL.out (HR.out.below HBL.out)).mono ?_
            rintro e w9 ⟨rfl, q, rfl⟩
            dsimp only
            go_wp2_with fail
            go_ret
            exact ⟨rfl, below_drewN HBL.out _⟩
end Go.Proofs.Ybulkgek
