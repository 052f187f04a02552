/-
  Seat b0338aD: 'LawS0338ABlockOf', walked.
-/
import Derived.Test.YbulkfzaDoorOrder
import Derived.RangeFuncBox
import Derived.Maps.AppendAt
namespace Go.Proofs.YbulkfzaDoor
open Go.RowKit Go.Lib Go.Shelf

attribute [local go_sem] Oper.semAt_some

theorem block_long (a : Option Addr) (len cap : Nat) (w : World) (hlen : (1024 : Int) < (len : Int)) :
    Calls Ybad.prog 4 #[.slice a len cap] w fun e w' => e = .returned (.bool true) ∧ w' = w := by
  go_enter Ybad.func4, Ybad.ntmps4
  go_wp2
  go_ret
  exact ⟨rfl, rfl⟩

theorem info34 : (Ybad.prog.info? 34).map (fun i => (i.zero, i.size, i.bytes)) = some (some (.pointer none), 1, 8) := by kernel_rfl

abbrev ptrOf (rb : Nat) (y : Nat × Nat) : Value := .pointer (some ⟨rb, y.1, none⟩)
abbrev sncOf (x : Nat) (y : Nat × Nat) : Value := .int .i64 ((x % 2 ^ y.2 : Nat) : Int)

/-- Two rows of two element types lie in two blocks. -/
theorem rows_apart {W : World} {b1 b2 e1 e2 s1 s2 k1 k2 : Nat} {v1 v2 : Value} {xs1 xs2 : List Value} (h1 : W.ownsRow b1 e1 s1 v1 k1 xs1) (h2 : W.ownsRow b2 e2 s2 v2 k2 xs2) (he : e1 ≠ e2) : v2.ownBlock = none ∨ v2.ownBlock ≠ v1.ownBlock := by
  rcases h1.2 with ⟨rfl, _⟩ | ⟨g1, c1, cur1, rfl, _, hg1, _⟩
  · rcases h2.2 with ⟨rfl, _⟩ | ⟨g2, c2, cur2, rfl, _, hg2, _⟩
    · exact .inl rfl
    · exact .inr (by simp [Value.ownBlock])
  · rcases h2.2 with ⟨rfl, _⟩ | ⟨g2, c2, cur2, rfl, _, hg2, _⟩
    · exact .inl rfl
    · refine .inr (fun e => ?_)
      obtain rfl : g2 = g1 := by simpa [Value.ownBlock] using e
      rw [hg1] at hg2
      cases hg2
      exact he rfl

/-- Another box behind an append. -/
theorem box_other {W w1 : World} {n₀ B B2 t2 e size : Nat} {u v v' : Value} {k : Nat} {xs : List Value} {tmp : Obj} (hb : Boxed W B2 t2 u) (hne : B2 ≠ B) (hte : t2 ≠ e) (hrow : W.ownsRow n₀ e size v k xs) (hgrow : (W.alloc tmp).grownBy w1 v.ownBlock) :
    Boxed (w1.setCell ⟨B, 0, none⟩ v') B2 t2 u :=
  ((hb.alloc tmp).kept hgrow (hb.not_row hte hrow)).kept (grownBy_setCell' w1 B v') (by simpa using hne)

/-- Another row behind an append. -/
theorem row_other {W w1 : World} {n₀ B t e e2 size size2 : Nat} {u v v2 v' : Value} {k k2 : Nat} {xs xs2 : List Value} {tmp : Obj} (hb : Boxed W B t u) (hte : t ≠ e2) (he : e ≠ e2) (hrow : W.ownsRow n₀ e size v k xs) (hrow2 : W.ownsRow n₀ e2 size2 v2 k2 xs2)
    (hgrow : (W.alloc tmp).grownBy w1 v.ownBlock) : (w1.setCell ⟨B, 0, none⟩ v').ownsRow n₀ e2 size2 v2 k2 xs2 := by
  refine ((hrow2.alloc tmp).kept hgrow (rows_apart (hrow.alloc tmp) (hrow2.alloc tmp) he)).kept (grownBy_setCell' w1 B v') ?_
  exact .inr (hb.not_row hte hrow2).symm

/-- What the loop's own cells hold when 'pre' has come. -/
def BI (N p rb x : Nat) (w1 : World) (pre : List (Nat × Nat)) (W : World) : Prop :=
  ∃ v1 v2, Boxed W N 37 v1 ∧ W.ownsRow N 34 1 v1 pre.length (pre.map (ptrOf rb)) ∧ Boxed W (N + 1) 27 v2 ∧ W.ownsRow N 2 1 v2 pre.length (pre.map (sncOf x)) ∧ Boxed W (N + 1 + 1) 24 (.pointer (some ⟨p, 0, none⟩)) ∧ Below N w1 W

theorem BI.own {N p rb x : Nat} {w1 : World} {pre : List (Nat × Nat)} {A B : World} {row : Option Nat} (hN : N ≤ w1.heap.size) (h : BI N p rb x w1 pre A) (hg : A.grownBy B row)
    (hr : ∀ r, row = some r → N ≤ r ∧ ∃ o : Obj, A.heap[r]? = some o ∧ o.isCells = false) : BI N p rb x w1 pre B := by
  obtain ⟨v1, v2, b1, r1, b2, r2, b3, bel⟩ := h
  have bx : ∀ {Bx t : Nat} {v : Value}, Boxed A Bx t v → Boxed B Bx t v := fun hb => hb.kept hg (fun e => by
    obtain ⟨_, o, ho, hc⟩ := hr _ e.symm
    rw [show A.heap[_]? = _ from hb] at ho
    cases ho; cases hc)
  have rw_ : ∀ {e s k : Nat} {v : Value} {xs : List Value}, A.ownsRow N e s v k xs → B.ownsRow N e s v k xs := fun {e s k v xs} hrow => by
    refine hrow.kept hg ?_
    rcases hrow.2 with ⟨rfl, _⟩ | ⟨g, cap, cur, rfl, _, hgb, _⟩
    · exact .inl rfl
    · refine .inr (fun e' => ?_)
      obtain ⟨_, o, ho, hc⟩ := hr g (by rw [← e']; rfl)
      rw [hgb] at ho
      cases ho; cases hc
  exact ⟨v1, v2, bx b1, rw_ r1, bx b2, rw_ r2, bx b3, bel.grown hg (Nat.le_trans hN bel.size) (fun r e => (hr r e).1)⟩

theorem moment_call (p x : Nat) (w : World) (hx : x ≤ 65536 * 1024) (c0 : w.cell? ⟨p, 0, none⟩ = some (.int .u64 (x : Nat))) :
    Calls Ybad.prog 8 #[.pointer (some ⟨p, 0, none⟩)] w fun e w' => e = .returned (.int .i64 ((x : Int) - 1)) ∧ w' = w := by
  have hxi : (x : Int) ≤ 67108864 := by omega
  go_enter Ybad.func8, Ybad.ntmps8
  go_wp2
  go_ret
  exact ⟨rfl, rfl⟩

theorem row_form {W : World} {N e : Nat} {v : Value} {k : Nat} {xs : List Value} (h : W.ownsRow N e 1 v k xs) : ∃ g c, (v = .slice g k c ∧ (k = 0 → True)) ∧ ∀ i, i < k → ∃ b, g = some ⟨b, 0, none⟩ ∧ W.cell? ⟨b, i, none⟩ = xs[i]? := by
  rcases h.2 with ⟨hv, hk⟩ | ⟨g, c, cur, hv, _⟩
  · subst hk
    exact ⟨none, 0, ⟨hv, fun _ => trivial⟩, fun i hi => absurd hi (Nat.not_lt_zero _)⟩
  · subst hv
    exact ⟨_, c, ⟨rfl, fun _ => trivial⟩, fun i hi => ⟨g, rfl, h.cellAt i (by omega)⟩⟩

theorem blockOf_back (B p x F k rb n sn : Nat) (s : Value) (w : World) (hx : x ≤ 65536 * 1024) (hsub : F &&& x = F) (hn : Pop.pc F = n) (hk : k < n) (hst : St B w p x F s) (hrb : rowBlock s = rb) (hsn : sn = x % 2 ^ (item F k).2) :
    (sn : Int) + 1 ≤ x ∧ Calls Ybad.prog 9 #[.pointer (some ⟨p, 0, none⟩), .int .i64 ((x : Int) - 1 - (sn : Int))] w fun e w' => e = .returned (.tuple #[.pointer (some ⟨rb, k, none⟩), .int .i64 ((x : Int) - 1 - (sn : Int))]) ∧ Mem w' w := by
  have hFx := sub_le hsub
  obtain ⟨-, -, h3, h4, -, -, h7, -⟩ := kth F (by omega) k (by omega)
  generalize (item F k).2 = j at h3 h4 h7 hsn
  have hxj := (sub_iff F x).1 hsub j h4
  have hjx : 2 ^ j ≤ x := Nat.ge_two_pow_of_testBit hxj
  have hj : j < 63 := by
    rcases Nat.lt_or_ge j 63 with h | h
    · exact h
    · have : 2 ^ 63 ≤ 2 ^ j := Nat.pow_le_pow_right (by omega) h
      omega
  obtain ⟨b1, b2, b3⟩ := Pop.back_bit x j h3 (by omega) hxj
  rw [← hsn] at b1 b2 b3
  have hz : (x : Int) - 1 - (sn : Int) = ((x - 1 - sn : Nat) : Int) := by omega
  refine ⟨by omega, ?_⟩
  obtain ⟨b, c, hs, -, hC⟩ := blockOf_set B p x F (x - 1 - sn) j s w (by omega) (by omega) (by omega) hj hst b2 h4
  rw [hz]
  refine hC.mono ?_
  rintro e w' ⟨rfl, hm⟩
  refine ⟨?_, hm⟩
  have hb : b = rb := by rw [← hrb, hs]; rfl
  rw [hb, h7, b3, ← hz]
  have : ((x - sn : Nat) : Int) - 1 = (x : Int) - 1 - (sn : Int) := by omega
  rw [this]

theorem block_start (p rb x : Nat) (w1 W : World) (hW : W = (((w1.alloc (.cells #[.slice none 0 0] 37)).alloc (.cells #[.slice none 0 0] 27)).alloc (.cells #[.pointer (some ⟨p, 0, none⟩)] 24))) :
    W.heap.size = w1.heap.size + 1 + 1 + 1 ∧ BI w1.heap.size p rb x w1 [] W ∧ W.cell? ⟨w1.heap.size + 1 + 1, 0, none⟩ = some (.pointer (some ⟨p, 0, none⟩)) := by
  subst hW
  have b1 := Boxed.new w1 37 (.slice none 0 0)
  have b2 := Boxed.new (w1.alloc (.cells #[.slice none 0 0] 37)) 27 (.slice none 0 0)
  have b3 := Boxed.new ((w1.alloc (.cells #[.slice none 0 0] 37)).alloc (.cells #[.slice none 0 0] 27)) 24 (.pointer (some ⟨p, 0, none⟩))
  simp only [World.size_alloc] at b2 b3
  exact ⟨by simp, ⟨_, _, (b1.alloc _).alloc _, World.ownsRow_nil _ _ _ _, b2.alloc _, World.ownsRow_nil _ _ _ _, b3, (((Below.refl _ w1).alloc (Nat.le_refl _) _).alloc (by simp) _).alloc (by simp; omega) _⟩, b3.cell⟩

set_option maxRecDepth 100000 in
set_option maxHeartbeats 2000000 in
theorem block_walk (a : Option Addr) (len cap : Nat) (w : World) (hlen : (len : Int) ≤ 1024) (hops : Ops w.heap.size w a len) (hT : TabAt 0 Lib.deBruijn64tab w) (hw0 : 0 < w.heap.size) :
    CallsIn Fence.wide 3 Ybad.prog 4 #[.slice a len cap] w fun e w' => e = .returned (.bool true) ∧ Below w.heap.size w w' := by
  obtain ⟨i34, hi34, z340, z341, z342⟩ := info_parts info34
  obtain ⟨i2, hi2, z20, z21, z22⟩ := info_parts info2
  refine callsIn_of_wp_marks Ybad.func4 rfl trivial ?_ rfl
  simp only [Ybad.ntmps4, List.size_toArray, List.length_cons, List.length_nil, Nat.reduceAdd, Nat.reduceSub, Array.replicate_succ, Array.replicate_zero, List.push_toArray, List.append_toArray, List.nil_append, List.cons_append]
  gi_wp2_with fail
  refine ⟨trivial, ?_⟩
  refine (callsIn_wide.2 (build_any a len cap w (by omega) hops)).mono ?_
  rintro e w1 ⟨p, x, F, s, rfl, hx, hsub, hst, hB1⟩
  obtain ⟨n, hn⟩ : ∃ n, n = Pop.pc F := ⟨_, rfl⟩
  have hn64 : n ≤ 64 := by rw [hn]; exact Pop.pc_le F
  have hFx := sub_le hsub
  have HST : Hid (St w.heap.size w1 p x F s) := hst
  have HB1 : Hid (Below w.heap.size w w1) := hB1
  have HSUB : Hid (F &&& x = F) := hsub
  have HN : Hid (Pop.pc F = n) := hn.symm
  have hp1 := hst.lt
  have hs1 := hB1.size
  obtain ⟨rb, hrb⟩ : ∃ rb, rowBlock s = rb := ⟨_, rfl⟩
  have HRB : Hid (rowBlock s = rb) := hrb
  clear hst hB1 hsub hn hrb
  gi_wp2_with fail
  refine ⟨trivial, ?_⟩
  refine (callsIn_wide.2 (all_call _ _)).mono ?_
  rintro e wz ⟨rfl, rfl⟩
  gi_wp2_with fail
  obtain ⟨WL, hWL⟩ : ∃ WL, WL = (((w1.alloc (.cells #[.slice none 0 0] 37)).alloc (.cells #[.slice none 0 0] 27)).alloc (.cells #[.pointer (some ⟨p, 0, none⟩)] 24)) := ⟨_, rfl⟩
  obtain ⟨hsz, hI0, hBox⟩ := block_start p rb x w1 WL hWL
  have hbel : Below w1.heap.size w1 WL := by obtain ⟨_, _, _, _, _, _, _, h⟩ := hI0; exact h
  have hStL : St w.heap.size WL p x F s := HST.out.kept hbel.size (fun q hq o => ⟨hbel.cell (p := ⟨q, o, none⟩) hq, hbel.frozen (p := ⟨q, o, none⟩) hq⟩)
  have hTL : TabAt 0 Lib.deBruijn64tab WL := fun i hi => ((hbel.cell (p := ⟨0, i, none⟩) (by show 0 < w1.heap.size; omega)).trans (HB1.out.cell (p := ⟨0, i, none⟩) hw0)).trans (hT i hi)
  rw [← hWL]
  have HSZ : Hid (WL.heap.size = w1.heap.size + 1 + 1 + 1) := hsz
  clear hWL
  refine wpIn_rangeFunc_ownG rfl (by omega) (gf := 11) (lb := #[.pointer (some ⟨w1.heap.size + 1 + 1, 0, none⟩)]) rfl trivial (enters_of Ybad.func11 (by kernel_rfl) rfl)
    (all_stops_rb rb 2 (w1.heap.size + 1 + 1) w1.heap.size p x F w.heap.size s WL HRB.out (by omega) (by omega) hp1 (by omega) (by omega) (by omega) hStL hBox hTL) (KB.trans' _ _) (KB.put (by omega) (by omega)) (Below.refl _ _) (fun _ => rfl)
    (fun pre W => BI w1.heap.size p rb x w1 pre W)
    (fun _ _ _ => False)
    (fun pre A B row hs hg hr => hs.own (Nat.le_refl _) hg (fun r e => ⟨by have := (hr r e).1; omega, (hr r e).2⟩))
    (fun _ _ _ _ _ hs _ _ => hs)
    hI0
    (fun y => { tmps := #[.slice a len cap, undef, .bool false, .pointer (some ⟨p, 0, none⟩), .pointer (some ⟨w1.heap.size, 0, none⟩), .pointer (some ⟨w1.heap.size + 1, 0, none⟩), .pointer (some ⟨rb, y.1, none⟩), .int .i64 ((x % 2 ^ y.2 : Nat) : Int), undef, undef, undef, undef, undef, .slice a len cap, .int .i64 (len : Nat), .bool (decide ((1024 : Int) < (len : Int))), .slice a len cap, .pointer (some ⟨p, 0, none⟩), .pointer (some ⟨p, 0, none⟩), .func (.func 11) #[] #[.pointer (some ⟨w1.heap.size + 1 + 1, 0, none⟩)], .pointer (some ⟨rb, y.1, none⟩), .int .i64 ((x % 2 ^ y.2 : Nat) : Int), undef, undef, undef, undef, undef, undef, undef, undef, undef, undef, undef, undef, undef, undef, undef, undef, undef, undef, undef, undef, undef, undef, undef, undef, undef, undef, undef, undef, undef, undef, undef, undef, undef, undef, undef, undef, undef, undef, undef, undef, undef, undef, undef, undef, undef, undef, undef, undef, undef, undef, undef, undef, undef, undef, undef, undef, undef, undef, undef, undef, undef], defers := [] }) ?assign ?body ?done ?stop
  case assign =>
    intro l y W K hK
    gi_wp2
    exact hK
  case body =>
    rintro l pre y W ⟨v1, v2, hv1, hr1, hv2, hr2, hv3, hB⟩ hlt
    obtain ⟨yi, yj⟩ := y
    dsimp only
    rw [HN.out] at hlt
    have hcb := hv1.cell
    have hN := hB.size
    have hml : pre.length + 1 ≤ maxLen := by unfold maxLen; omega
    have hmb : (pre.length + 1) * 8 ≤ 140737488355328 := by omega
    clear hStL hTL hI0 hBox hbel hops hT hsz
    obtain ⟨sn, hsn⟩ : ∃ sn, sn = x % 2 ^ yj := ⟨_, rfl⟩
    rw [← hsn]
    have HSN : Hid (sn = x % 2 ^ yj) := hsn
    have HML : Hid (pre.length + 1 ≤ maxLen ∧ (pre.length + 1) * 8 ≤ 140737488355328) := ⟨hml, hmb⟩
    have HB : Hid (Below w1.heap.size w1 W) := hB
    clear hsn hml hmb hB hlen hx hFx hs1 hw0
    iterate 13 gi_step
    refine wpListIn_append_own _ rfl _ _ 37 rfl w1.heap.size 34 i34 (.pointer none) 1 8 Ybad.underlying37 hi34 z340 z341 z342 rfl (by decide) _ _ _ rfl (hr1.alloc _) ⟨W.heap.size, 0, none⟩ 1 1 [.pointer (some ⟨rb, yi, none⟩)] rfl rfl (cell_one_new _ _ _) (by simp [Value.oneCell']) HML.out.1 HML.out.2 (by simp; omega) ?_
    intro v' w1' hown' hgrow _
    obtain ⟨g', cap', rfl⟩ := ownsRow_succ hown'
    obtain ⟨hw1, hw2, hq2, hk2, hb2⟩ := hv1.appended (by decide) hr1 hN (Nat.le_refl _) hown' hgrow
    have hc1 := hw1.cell
    have hf1 := hw1.frozen
    have hbo := box_other (v' := .slice (some ⟨g', 0, none⟩) (pre.length + 1) cap') hv2 (B := w1.heap.size) (by omega) (by decide) hr1 hgrow
    have hbp := box_other (v' := .slice (some ⟨g', 0, none⟩) (pre.length + 1) cap') hv3 (B := w1.heap.size) (by omega) (by decide) hr1 hgrow
    have hro := row_other (v' := .slice (some ⟨g', 0, none⟩) (pre.length + 1) cap') hv1 (by decide) (by decide) hr1 hr2 hgrow
    iterate 2 gi_step
    have hN2 := hb2.size
    have HK : Hid (KeepsOthers W _ ∧ Below w1.heap.size W _) := ⟨hk2, hb2⟩
    generalize (w1'.setCell { block := w1.heap.size, off := 0 } (Value.slice (some { block := g', off := 0 }) (pre.length + 1) cap')) = W2 at hw2 hq2 hk2 hb2 hbo hbp hro hN2 HK ⊢
    have hco := hbo.cell
    clear hk2 hb2 hw1 hc1 hf1 hown' hgrow hcb
    have hN3 : w1.heap.size ≤ W2.heap.size := Nat.le_trans hN hN2
    clear hN2
    iterate 14 gi_step
    refine wpListIn_append_own _ rfl _ _ 27 rfl w1.heap.size 2 i2 (.int .i64 0) 1 8 Ybad.underlying27 hi2 z20 z21 z22 rfl (by decide) _ _ _ rfl (hro.alloc _) ⟨W2.heap.size, 0, none⟩ 1 1 [.int .i64 (sn : Nat)] rfl rfl (cell_one_new _ _ _) (by simp [Value.oneCell']) HML.out.1 HML.out.2 (by simp; omega) ?_
    intro v'' w2' hown2 hgrow2 _
    obtain ⟨g2, cap2, rfl⟩ := ownsRow_succ hown2
    obtain ⟨hx1, hx2, hy2, hz2, ha2⟩ := hbo.appended (by decide) hro hN3 (Nat.le_succ _) hown2 hgrow2
    have hc2 := hx1.cell
    have hf2 := hx1.frozen
    have hd1 := box_other (v' := .slice (some ⟨g2, 0, none⟩) (pre.length + 1) cap2) hw2 (B := w1.heap.size + 1) (by omega) (by decide) hro hgrow2
    have hd3 := box_other (v' := .slice (some ⟨g2, 0, none⟩) (pre.length + 1) cap2) hbp (B := w1.heap.size + 1) (by omega) (by decide) hro hgrow2
    have hd2 := row_other (v' := .slice (some ⟨g2, 0, none⟩) (pre.length + 1) cap2) hbo (by decide) (by decide) hro hq2 hgrow2
    gi_wp2
    have hfin := HK.out.2.trans ha2
    refine ⟨(HK.out.1.trans hz2).from _, ⟨hfin, hd3.cell.trans hv3.cell.symm⟩, _, _, hd1, ?_, hx2, ?_, hd3, HB.out.trans hfin⟩
    · simpa using hd2
    · rw [HSN.out] at hy2
      rw [List.map_append, List.length_append]
      exact hy2
  case done =>
    rintro D ys W hD hys ⟨v1, v2, hv1, hr1, hv2, hr2, hv3, hB⟩ hK
    have hlen' : ys.length = n := by rw [hys, items_length, HN.out]
    rw [hlen'] at hr1 hr2
    obtain ⟨g1, c1, ⟨hf1, -⟩, hc1⟩ := row_form hr1
    obtain ⟨g2, c2, ⟨hf2, -⟩, hc2⟩ := row_form hr2
    have hb1 := hv1.cell
    have hb2 := hv2.cell
    rw [hf1] at hb1
    rw [hf2] at hb2
    have hStW : St w.heap.size W p x F s := HST.out.kept hB.size (fun q hq o => ⟨hB.cell (p := ⟨q, o, none⟩) hq, hB.frozen (p := ⟨q, o, none⟩) hq⟩)
    obtain ⟨sa, sc, hs⟩ := hStW.row.form
    have e0 := hStW.c0
    have e2 := hStW.c2
    rw [hs, HN.out] at e2
    have HC1 : Hid (∀ i, i < n → ∃ b, g1 = some ⟨b, 0, none⟩ ∧ W.cell? ⟨b, i, none⟩ = (ys.map (ptrOf rb))[i]?) := hc1
    have HC2 : Hid (∀ i, i < n → ∃ b, g2 = some ⟨b, 0, none⟩ ∧ W.cell? ⟨b, i, none⟩ = (ys.map (sncOf x))[i]?) := hc2
    have HY : Hid (ys = items F n) := by rw [← HN.out]; exact hys
    have HSW : Hid (St w.heap.size W p x F s ∧ s = .slice sa n sc) := ⟨hStW, by rw [hs, HN.out]⟩
    have HB2 : Hid (Below w1.heap.size w1 W) := hB
    have HK : Hid _ := hK
    have HD : Hid (WL.heap.size ≤ D) := hD
    clear hStL hTL hI0 hBox hbel hops hT hsz hys hlen' hr1 hr2 hf1 hf2 hc1 hc2 hStW hs hB hv1 hv2 hv3 hK hD
    gi_wp2_with fail
    refine ⟨trivial, ?_⟩
    refine (callsIn_wide.2 (moment_call p x W hx e0)).mono ?_
    rintro e wz ⟨rfl, hwz⟩
    rw [hwz]
    clear hwz
    gi_wp2_with fail
    gi_loopg [10] n (fun g v wr => ∃ kk : Nat, v = .int .i64 (kk : Nat) ∧ kk ≤ n ∧ g = n - kk ∧ Mem wr W)
    case atStart => exact ⟨0, rfl, Nat.zero_le _, rfl, rfl, rfl, rfl, rfl⟩
    case round =>
      obtain ⟨kk, rfl, hkn, hg, hmem⟩ := hrel
      have q0 := (hmem.cell _).trans e0
      have q2 := (hmem.cell _).trans e2
      have p1 := (hmem.cell _).trans hb1
      have p2 := (hmem.cell _).trans hb2
      have HM : Hid (Mem wr W) := hmem
      clear hmem e0 e2 hb1 hb2
      by_cases hlt : kk < n
      · obtain ⟨b2, hg2, hz2⟩ := HC2.out kk hlt
        obtain ⟨b1, hg1, hz1⟩ := HC1.out kk hlt
        obtain ⟨sn, hsn⟩ : ∃ sn, sn = x % 2 ^ (item F kk).2 := ⟨_, rfl⟩
        have hit : (items F n)[kk]? = some (item F kk) := by simp [items, hlt]
        have r2 : wr.cell? ⟨b2, kk, none⟩ = some (.int .i64 (sn : Nat)) := by
          rw [HM.out.cell, hz2, HY.out, List.getElem?_map, hit, hsn]; rfl
        have r1 : wr.cell? ⟨b1, kk, none⟩ = some (.pointer (some ⟨rb, kk, none⟩)) := by
          rw [HM.out.cell, hz1, HY.out, List.getElem?_map, hit]; rfl
        obtain ⟨hsx, hC⟩ := blockOf_back w.heap.size p x F kk rb n sn s wr hx HSUB.out HN.out hlt (HSW.out.1.mem HM.out) HRB.out hsn
        have HC : Hid _ := hC
        subst hg2 hg1
        have hki : (kk : Int) < (n : Int) := by omega
        have hd1 : decide (kk < n) = true := decide_eq_true hlt
        have hxi : (x : Int) ≤ 67108864 := by omega
        clear hz1 hz2 hsn hit hC hlen hFx hs1 hw0 hlt hkn
        gi_wp2_with fail
        refine ⟨trivial, ?_⟩
        refine (callsIn_wide.2 HC).mono ?_
        rintro e wy ⟨rfl, hmy⟩
        have t0 := (hmy.cell _).trans q0
        have t2 := (hmy.cell _).trans q2
        have s1 := (hmy.cell _).trans p1
        have s2 := (hmy.cell _).trans p2
        have z1 := (hmy.cell _).trans r1
        have z2 := (hmy.cell _).trans r2
        have HMY : Hid (Mem wy W) := hmy.trans HM.out
        have hneq := neq_in rb kk kk
        have hkk : (kk != kk) = false := by simp
        rw [hkk] at hneq
        have hnn : ((n : Int) != (n : Int)) = false := by simp
        have hee : (((x : Int) - 1 - (sn : Int)) != ((x : Int) - 1 - (sn : Int))) = false := by simp
        clear hmy q0 q2 p1 p2 r1 r2 hkk
        gi_wp2_with fail
        gi_roundg (n - (kk + 1))
        case measure => omega
        case rel => exact ⟨kk + 1, rfl, by omega, rfl, HMY.out⟩
      · obtain rfl : kk = n := by omega
        gi_wp2_with fail
        refine ⟨by simp, .inl ⟨_, _, rfl, run_takeDeferred (by rw [HM.out.1]; exact HK), ?_⟩⟩
        exact ⟨_, results_tmp rfl _ _ _, rfl, ((HB1.out.trans (HB2.out.mono hs1)).trans (HM.out.below _)).trans (belowK_b (w := w) (Nat.le_refl _) wr D _ _ (by have h1 := HD.out; have h2 := HSZ.out; omega) (by rw [HM.out.1]; exact HK) rfl rfl)⟩
  case stop =>
    rintro D c pre W _ _ h _
    exact h.elim
end Go.Proofs.YbulkfzaDoor
