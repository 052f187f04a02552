/-
  Seat b0338aD: 'LawS0338AOrder', walked.
-/
import Derived.Test.YbulkfzaDoorIter
import Derived.Sort.LoopGhostIn
namespace Go.Proofs.YbulkfzaDoor
open Go.RowKit Go.Lib Go.Shelf

attribute [local go_sem] Oper.semAt_some

theorem order_long (a : Option Addr) (len cap : Nat) (stop : Int) (w : World) (hlen : (1024 : Int) < (len : Int)) :
    Calls Ybad.prog 3 #[.slice a len cap, .int .u32 stop] w fun e w' => e = .returned (.bool true) ∧ w' = w := by
  go_enter Ybad.func3, Ybad.ntmps3
  go_wp2
  go_ret
  exact ⟨rfl, rfl⟩

theorem size2 : (Ybad.prog.info? 2).map (·.size) = some 1 := by kernel_rfl

/-- '!=' between two places of one block. -/
theorem neq_in (b i k : Nat) (w : World) : (binOp .neq 34 (.pointer (some ⟨b, i, none⟩)) (.pointer (some ⟨b, k, none⟩))).run Ybad.prog w = .ok (.bool (i != k)) w := by
  obtain ⟨j, hj, hj1⟩ := Option.map_eq_some_iff.1 size2
  have hs : ((⟨b, i, none⟩ : Addr) == ⟨b, k, none⟩) = (i == k) := by
    rw [Bool.eq_iff_iff]; simp
  have h : ∀ d : Nat, (Op.equalIn (d + 1) 34 (.pointer (some ⟨b, i, none⟩)) (.pointer (some ⟨b, k, none⟩))).run Ybad.prog w = .ok (i == k) w := fun d => by
    simp [Op.equalIn, run_underlying Ybad.underlying34, sizeOf, typeInfo, hj, hj1, sameAddr, hs]
  simp only [binOp]
  simp [Op.equal, Op.maxDepth, h 9999, bne]

theorem mem_setCell {W : World} {b : Nat} {v : Value} (h : W.cell? ⟨b, 0, none⟩ = some v) : Mem W (W.setCell ⟨b, 0, none⟩ v) := by
  obtain ⟨c, e, fr, h1, h2⟩ := Go.Sort.cells_of_cell? h
  refine ⟨?_, rfl, rfl, rfl⟩
  apply Array.ext_getElem?
  intro i
  simp only [World.setCell, Array.getElem?_modify]
  by_cases hi : b = i
  · subst hi
    rw [if_pos rfl, h1]
    simp only [Option.map_some, Option.some.injEq, Obj.cells.injEq, and_true]
    apply Array.ext_getElem?
    intro k
    by_cases hk : k = 0
    · subst hk
      show c[0]? = (c.setIfInBounds 0 v)[0]?
      rw [h2, Array.getElem?_setIfInBounds]; simp [(Array.getElem?_eq_some_iff.1 h2).1]
    · show c[k]? = (c.setIfInBounds 0 v)[k]?
      rw [Array.getElem?_setIfInBounds_ne (by omega)]
  · rw [if_neg hi]

/-- A second store into one cell. -/
theorem mem_set2 {W W' X : World} {b : Nat} {v v' : Value} (h : Mem W' (W.setCell ⟨b, 0, none⟩ v)) (hX : Mem X (W'.setCell ⟨b, 0, none⟩ v')) : Mem X (W.setCell ⟨b, 0, none⟩ v') := by
  refine ⟨?_, hX.2.1.trans h.2.1, hX.2.2.1.trans h.2.2.1, hX.2.2.2.trans h.2.2.2⟩
  rw [hX.1]
  have h2 := h.1
  simp only [World.setCell] at h2 ⊢
  rw [h2]
  apply Array.ext_getElem?
  intro i
  simp only [Array.getElem?_modify]
  by_cases hi : b = i
  · subst hi
    simp only [if_pos]
    cases W.heap[b]? with
    | none => rfl
    | some o => cases o <;> simp
  · simp [hi]

/-- What the loop's own cells hold when 'pre' has come. -/
structure OI (N p n lim F : Nat) (w1 : World) (pre : List (Nat × Nat)) (W : World) : Prop where
  cw : W.cell? ⟨N, 0, none⟩ = some (.pointer (some ⟨p, 0, none⟩))
  cn : W.cell? ⟨N + 1, 0, none⟩ = some (.int .i64 (n : Nat))
  cl : W.cell? ⟨N + 1 + 1, 0, none⟩ = some (.int .i64 (lim : Nat))
  cc : W.cell? ⟨N + 1 + 1 + 1, 0, none⟩ = some (.int .i64 (pre.length : Nat))
  fc : W.frozen? ⟨N + 1 + 1 + 1, 0, none⟩ = false
  co : ∃ o : Bool, W.cell? ⟨N + 1 + 1 + 1 + 1, 0, none⟩ = some (.bool o) ∧ (pre = items F pre.length → o = true)
  fo : W.frozen? ⟨N + 1 + 1 + 1 + 1, 0, none⟩ = false
  cb : W.cell? ⟨N + 1 + 1 + 1 + 1 + 1, 0, none⟩ = some (.int .i64 (bitFrom F pre.length : Nat))
  fb : W.frozen? ⟨N + 1 + 1 + 1 + 1 + 1, 0, none⟩ = false
  bel : Below N w1 W

theorem below_dN {B q : Nat} {a w : World} (h : Below B a w) : Below B a (w.drewN q) := ⟨h.os, h.tape, h.output, h.size, h.block⟩

theorem OI.own {N p n lim F : Nat} {w1 : World} {pre : List (Nat × Nat)} {A B : World} {row : Option Nat} (hN : N ≤ w1.heap.size) (h : OI N p n lim F w1 pre A) (hg : A.grownBy B row)
    (hr : ∀ r, row = some r → N ≤ r ∧ ∃ o : Obj, A.heap[r]? = some o ∧ o.isCells = false) : OI N p n lim F w1 pre B := by
  have hr2 : ∀ r, row = some r → ∃ o : Obj, A.heap[r]? = some o ∧ o.isCells = false := fun r e => (hr r e).2
  obtain ⟨o, ho, ho2⟩ := h.co
  exact ⟨cell_kept h.cw hg hr2, cell_kept h.cn hg hr2, cell_kept h.cl hg hr2, cell_kept h.cc hg hr2, (frozen_kept h.cc hg hr2).trans h.fc, ⟨o, cell_kept ho hg hr2, ho2⟩, (frozen_kept ho hg hr2).trans h.fo,
    cell_kept h.cb hg hr2, (frozen_kept h.cb hg hr2).trans h.fb, h.bel.grown hg (Nat.le_trans hN h.bel.size) (fun r e => (hr r e).1)⟩

theorem OI.mem {N p n lim F : Nat} {w1 : World} {pre : List (Nat × Nat)} {A B : World} (h : OI N p n lim F w1 pre A) (hm : Mem B A) : OI N p n lim F w1 pre B := by
  obtain ⟨o, ho, ho2⟩ := h.co
  exact ⟨(hm.cell _).trans h.cw, (hm.cell _).trans h.cn, (hm.cell _).trans h.cl, (hm.cell _).trans h.cc, (hm.frozen _).trans h.fc, ⟨o, (hm.cell _).trans ho, ho2⟩, (hm.frozen _).trans h.fo, (hm.cell _).trans h.cb, (hm.frozen _).trans h.fb, h.bel.trans (hm.below _)⟩

theorem mem_cong {A B : World} (h : Mem A B) (a : Addr) (v : Value) : Mem (A.setCell a v) (B.setCell a v) :=
  ⟨by simp only [World.setCell]; rw [h.1], h.2.1, h.2.2.1, h.2.2.2⟩
theorem Mem.trans {A B C : World} (h : Mem A B) (k : Mem B C) : Mem A C := ⟨h.1.trans k.1, h.2.1.trans k.2.1, h.2.2.1.trans k.2.2.1, h.2.2.2.trans k.2.2.2⟩
theorem Mem.keeps {A B : World} (h : Mem B A) : KeepsOthers A B := ⟨by rw [h.1]; exact Nat.le_refl _, fun _ _ h1 _ => by rw [h.1]; exact h1⟩

theorem mem_comm (w : World) (a b : Nat) (u v : Value) (h : a ≠ b) : Mem ((w.setCell ⟨a, 0, none⟩ u).setCell ⟨b, 0, none⟩ v) ((w.setCell ⟨b, 0, none⟩ v).setCell ⟨a, 0, none⟩ u) := by
  refine ⟨?_, rfl, rfl, rfl⟩
  simp only [World.setCell]
  apply Array.ext_getElem?
  intro i
  simp only [Array.getElem?_modify]
  by_cases h1 : a = i
  · subst h1
    have h2 : ¬ b = a := fun e => h e.symm
    simp [h2]
  · by_cases h2 : b = i
    · subst h2; simp [h1]
    · simp [h1, h2]

/-- One round's three stores. -/
theorem order_round {N p n lim F S : Nat} {w1 W W' : World} {pre : List (Nat × Nat)} {y : Nat × Nat} (o' : Bool) (hI : OI N p n lim F w1 pre W) (ho' : pre ++ [y] = items F (pre.length + 1) → o' = true)
    (hm : Mem W' (((W.setCell ⟨N + 1 + 1 + 1 + 1 + 1, 0, none⟩ (.int .i64 (bitFrom F (pre.length + 1) : Nat))).setCell ⟨N + 1 + 1 + 1 + 1, 0, none⟩ (.bool o')).setCell ⟨N + 1 + 1 + 1, 0, none⟩ (.int .i64 ((pre.length + 1 : Nat) : Int)))) :
    OI N p n lim F w1 (pre ++ [y]) W' ∧ KB N (N + 1 + 1 + 1 + 1 + 1 + 1) W W' ∧ KeepsFrom S W W' := by
  obtain ⟨o, co, _⟩ := hI.co
  have hl : (pre ++ [y]).length = pre.length + 1 := by simp
  have hb : Below N W W' := ((((Below.refl N W).setCell (p := ⟨N + 1 + 1 + 1 + 1 + 1, 0, none⟩) (by simp only; omega) _).setCell (p := ⟨N + 1 + 1 + 1 + 1, 0, none⟩) (by simp only; omega) _).setCell (p := ⟨N + 1 + 1 + 1, 0, none⟩) (by simp only; omega) _).trans (hm.below N)
  refine ⟨⟨?_, ?_, ?_, ?_, ?_, ⟨o', ?_, ?_⟩, ?_, ?_, ?_, hI.bel.trans hb⟩, ⟨hb, ?_⟩, (((KeepsOthers.setCell _ _ _).trans ((KeepsOthers.setCell _ _ _).trans (KeepsOthers.setCell _ _ _))).trans hm.keeps).from _⟩
  · rw [hm.cell, World.cell?_setCell_other _ _ _ _ (by simp), World.cell?_setCell_other _ _ _ _ (by simp), World.cell?_setCell_other _ _ _ _ (by simp)]; exact hI.cw
  · rw [hm.cell, World.cell?_setCell_other _ _ _ _ (by simp), World.cell?_setCell_other _ _ _ _ (by simp), World.cell?_setCell_other _ _ _ _ (by simp)]; exact hI.cn
  · rw [hm.cell, World.cell?_setCell_other _ _ _ _ (by simp), World.cell?_setCell_other _ _ _ _ (by simp), World.cell?_setCell_other _ _ _ _ (by simp)]; exact hI.cl
  · rw [hm.cell, hl]; exact World.cell?_setCell_same' _ _ _ (by rw [World.cell?_setCell_other _ _ _ _ (by simp), World.cell?_setCell_other _ _ _ _ (by simp), hI.cc]; rfl)
  · rw [hm.frozen, World.frozen?_setCell, World.frozen?_setCell, World.frozen?_setCell]; exact hI.fc
  · rw [hm.cell, World.cell?_setCell_other _ _ _ _ (by simp)]; exact World.cell?_setCell_same' _ _ _ (by rw [World.cell?_setCell_other _ _ _ _ (by simp), co]; rfl)
  · rw [hl]; exact ho'
  · rw [hm.frozen, World.frozen?_setCell, World.frozen?_setCell, World.frozen?_setCell]; exact hI.fo
  · rw [hm.cell, hl, World.cell?_setCell_other _ _ _ _ (by simp), World.cell?_setCell_other _ _ _ _ (by simp)]; exact World.cell?_setCell_same' _ _ _ (by rw [hI.cb]; rfl)
  · rw [hm.frozen, World.frozen?_setCell, World.frozen?_setCell, World.frozen?_setCell]; exact hI.fb
  · rw [hm.cell, World.cell?_setCell_other _ _ _ _ (by simp), World.cell?_setCell_other _ _ _ _ (by simp), World.cell?_setCell_other _ _ _ _ (by simp)]

theorem order_start (p n lim F : Nat) (w1 W : World)
    (hm : Mem W (((((((w1.alloc (.cells #[.pointer (some ⟨p, 0, none⟩)] 24)).alloc (.cells #[.int .i64 (n : Nat)] 3)).alloc (.cells #[.int .i64 (lim : Nat)] 3)).alloc (.cells #[.int .i64 0] 3)).alloc (.cells #[.bool true] 4)).alloc (.cells #[.int .i64 0] 3)).alloc (.cells #[.pointer (some ⟨p, 0, none⟩)] 24))) :
    W.heap.size = w1.heap.size + 1 + 1 + 1 + 1 + 1 + 1 + 1 ∧ OI w1.heap.size p n lim F w1 [] W ∧ W.cell? ⟨w1.heap.size + 1 + 1 + 1 + 1 + 1 + 1, 0, none⟩ = some (.pointer (some ⟨p, 0, none⟩)) := by
  refine ⟨by rw [hm.1]; simp, OI.mem ⟨by simp [go_sem], by simp [go_sem], by simp [go_sem], by simp [go_sem], by simp [go_sem], ⟨true, by simp [go_sem], fun _ => rfl⟩, by simp [go_sem], by simp [go_sem, bitFrom], by simp [go_sem], ?_⟩ hm, by rw [hm.cell]; simp [go_sem]⟩
  exact (((((((Below.refl _ w1).alloc (Nat.le_refl _) _).alloc (by simp) _).alloc (by simp; omega) _).alloc (by simp; omega) _).alloc (by simp; omega) _).alloc (by simp; omega) _).alloc (by simp; omega) _

set_option maxRecDepth 100000 in
set_option maxHeartbeats 2000000 in
theorem order_walk (a : Option Addr) (len cap : Nat) (stop : Nat) (w : World) (hlen : (len : Int) ≤ 1024) (hstop : stop < 4294967296) (hops : Ops w.heap.size w a len) (hT : TabAt 0 Lib.deBruijn64tab w) (hw0 : 0 < w.heap.size) :
    CallsIn Fence.wide 3 Ybad.prog 3 #[.slice a len cap, .int .u32 stop] w fun e w' => e = .returned (.bool true) ∧ Below w.heap.size w w' := by
  refine callsIn_of_wp_marks Ybad.func3 rfl trivial ?_ rfl
  simp only [Ybad.ntmps3, List.size_toArray, List.length_cons, List.length_nil, Nat.reduceAdd, Nat.reduceSub, Array.replicate_succ, Array.replicate_zero, List.push_toArray, List.append_toArray, List.nil_append, List.cons_append]
  gi_wp2_with fail
  refine ⟨trivial, ?_⟩
  refine (callsIn_wide.2 (build_any a len cap w (by omega) hops)).mono ?_
  rintro e w1 ⟨p, x, F, s, rfl, hx, hsub, hst, hB1⟩
  obtain ⟨n, hn⟩ : ∃ n, n = Pop.pc F := ⟨_, rfl⟩
  have hn64 : n ≤ 64 := by rw [hn]; exact Pop.pc_le F
  have hR := hst.row
  rw [← hn] at hR
  obtain ⟨sa, sc, hs⟩ := hR.form
  subst hs
  have c0 := hst.c0
  have c1 := hst.c1
  have c2 := hst.c2
  have hFx := sub_le hsub
  have HST : Hid (St w.heap.size w1 p x F (.slice sa n sc)) := hst
  have HB1 : Hid (Below w.heap.size w w1) := hB1
  have HSUB : Hid (F &&& x = F) := hsub
  have HN : Hid (Pop.pc F = n) := hn.symm
  have hp1 := hst.lt
  have hs1 := hB1.size
  have hmod : stop % (n + 1) ≤ n := by have := Nat.mod_lt stop (show 0 < n + 1 by omega); omega
  have hlim : ((stop : Int) % ((n : Int) + 1)) = ((stop % (n + 1) : Nat) : Int) := by simp
  obtain ⟨lim, hl⟩ : ∃ lim, lim = stop % (n + 1) := ⟨_, rfl⟩
  rw [← hl] at hlim hmod
  obtain ⟨rb, hrb⟩ : ∃ rb, rowBlock (.slice sa n sc) = rb := ⟨_, rfl⟩
  clear hst hB1 hsub hn hR hl
  gi_wp2_with fail
  refine wpIn_wide.2 ?_
  go_quiet ((go_at_call 6; exact Calls.quiet_of_same (onesI F n (by omega) HN.out _)))
  gi_wp2_with fail
  refine ⟨trivial, ?_⟩
  refine (callsIn_wide.2 (all_call _ _)).mono ?_
  rintro e wz ⟨rfl, rfl⟩
  gi_wp2_with fail
  obtain ⟨WL, hWL⟩ : ∃ WL, WL = ((((((((w1.alloc (.cells #[.pointer (some ⟨p, 0, none⟩)] 24)).alloc (.cells #[.int .i64 (n : Nat)] 3)).drewN nq).alloc (.cells #[.int .i64 (lim : Nat)] 3)).alloc (.cells #[.int .i64 0] 3)).alloc (.cells #[.bool true] 4)).alloc (.cells #[.int .i64 0] 3)).alloc (.cells #[.pointer (some ⟨p, 0, none⟩)] 24)) := ⟨_, rfl⟩
  obtain ⟨hsz, hI0, hBox⟩ := order_start p n lim F w1 WL (by rw [hWL]; exact ⟨rfl, rfl, rfl, rfl⟩)
  have hbel := hI0.bel
  have hStL : St w.heap.size WL p x F (.slice sa n sc) := HST.out.kept hbel.size (fun q hq o => ⟨hbel.cell (p := ⟨q, o, none⟩) hq, hbel.frozen (p := ⟨q, o, none⟩) hq⟩)
  have hTL : TabAt 0 Lib.deBruijn64tab WL := fun i hi => ((hbel.cell (p := ⟨0, i, none⟩) (by show 0 < w1.heap.size; omega)).trans (HB1.out.cell (p := ⟨0, i, none⟩) hw0)).trans (hT i hi)
  rw [← hWL]
  have HSZ : Hid (WL.heap.size = w1.heap.size + 1 + 1 + 1 + 1 + 1 + 1 + 1) := hsz
  clear hWL
  refine wpIn_rangeFunc_ownG rfl (by omega) (gf := 11) (lb := #[.pointer (some ⟨w1.heap.size + 1 + 1 + 1 + 1 + 1 + 1, 0, none⟩)]) rfl trivial (enters_of Ybad.func11 (by kernel_rfl) rfl)
    (all_stops_rb rb 2 (w1.heap.size + 1 + 1 + 1 + 1 + 1 + 1) w1.heap.size p x F w.heap.size (.slice sa n sc) WL hrb (by omega) (by omega) hp1 (by omega) (by omega) (by omega) hStL hBox hTL) (KB.trans' _ _) (KB.put (by omega) (by omega)) (Below.refl _ _) (fun _ => rfl)
    (fun pre W => OI w1.heap.size p n lim F w1 pre W ∧ pre.length ≤ lim)
    (fun c pre W => c = .exit 0 ∧ OI w1.heap.size p n lim F w1 pre W ∧ pre.length = lim + 1)
    (fun pre A B row hs hg hr => ⟨hs.1.own (Nat.le_refl _) hg (fun r e => ⟨by have := (hr r e).1; omega, (hr r e).2⟩), hs.2⟩)
    (fun c pre A B row hs hg hr => ⟨hs.1, hs.2.1.own (Nat.le_refl _) hg (fun r e => ⟨by have := (hr r e).1; omega, (hr r e).2⟩), hs.2.2⟩)
    ⟨hI0, Nat.zero_le _⟩
    (fun y => { tmps := #[.slice a len cap, .int .u32 (stop : Nat), undef, undef, .bool false, .pointer (some ⟨w1.heap.size, 0, none⟩), .pointer (some ⟨w1.heap.size + 1, 0, none⟩), .pointer (some ⟨w1.heap.size + 1 + 1, 0, none⟩), .pointer (some ⟨w1.heap.size + 1 + 1 + 1, 0, none⟩), .pointer (some ⟨w1.heap.size + 1 + 1 + 1 + 1, 0, none⟩), .pointer (some ⟨w1.heap.size + 1 + 1 + 1 + 1 + 1, 0, none⟩), .pointer (some ⟨rb, y.1, none⟩), .int .i64 ((x % 2 ^ y.2 : Nat) : Int), undef, undef, .slice a len cap, .int .i64 (len : Nat), .bool (decide ((1024 : Int) < (len : Int))), .slice a len cap, .pointer (some ⟨p, 0, none⟩), .pointer (some ⟨p, 0, none⟩), .pointer (some ⟨p, 0, none⟩), .pointer (some ⟨p, 2, none⟩), .slice sa n sc, .int .i64 (n : Nat), .pointer (some ⟨p, 0, none⟩), .pointer (some ⟨p, 0, none⟩), .pointer (some ⟨p, 1, none⟩), .int .u64 (F : Nat), .int .i64 (n : Nat), .int .i64 (n : Nat), .bool false, .int .u32 (stop : Nat), .int .i64 (n : Nat), .int .i64 ((n : Int) + 1), .int .u32 ((n : Int) + 1), .int .u32 (lim : Nat), .int .i64 (lim : Nat), .pointer (some ⟨p, 0, none⟩), .func (.func 11) #[] #[.pointer (some ⟨w1.heap.size + 1 + 1 + 1 + 1 + 1 + 1, 0, none⟩)], .pointer (some ⟨rb, y.1, none⟩), .int .i64 ((x % 2 ^ y.2 : Nat) : Int), undef, undef, undef, undef, undef, undef, undef, undef, undef, undef, undef, undef, undef, undef, undef, undef, undef, undef, undef, undef, undef, undef, undef, undef, undef, undef, undef, undef, undef, undef, undef, undef, undef, undef, undef, undef, undef, undef, undef, undef, undef, undef, undef, undef, undef, undef, undef, undef, undef, undef, undef, undef, undef, undef, undef, undef, undef, undef, undef, undef, undef, undef], defers := [] }) ?assign ?body ?done ?stop
  case assign =>
    intro l y W K hK
    gi_wp2
    exact hK
  case body =>
    rintro l pre y W ⟨hI, hle⟩ hlt
    dsimp only
    have hkth := kth F (by omega) pre.length hlt
    rw [HN.out] at hlt
    have e0 := (hI.bel.cell (p := ⟨p, 0, none⟩) hp1).trans c0
    have e1 := (hI.bel.cell (p := ⟨p, 1, none⟩) hp1).trans c1
    have e2 : W.cell? ⟨p, 2, none⟩ = some (.slice (some ⟨rb, 0, none⟩) n sc) := by
      have hRw := HST.out.row
      obtain ⟨n', hn'⟩ : ∃ n', n = n' + 1 := ⟨n - 1, by omega⟩
      rw [HN.out, hn'] at hRw
      obtain ⟨b, sc', hsf⟩ := hRw.form2
      have hsa : sa = some ⟨b, 0, none⟩ := by simp at hsf; exact hsf.1
      rw [(hI.bel.cell (p := ⟨p, 2, none⟩) hp1).trans c2, ← hrb, hsa]
      rfl
    have cw := hI.cw
    have cn := hI.cn
    have cl := hI.cl
    have cc := hI.cc
    have cb := hI.cb
    have fb := hI.fb
    have HI : Hid (OI w1.heap.size p n lim F w1 pre W) := hI
    obtain ⟨k, hk⟩ : ∃ k, k = pre.length := ⟨_, rfl⟩
    obtain ⟨b0, hb0⟩ : ∃ b0, b0 = bitFrom F k := ⟨_, rfl⟩
    obtain ⟨j, hj⟩ : ∃ j, j = (item F k).2 := ⟨_, rfl⟩
    rw [← hk] at cc hlt hle hkth cb
    rw [← hb0] at cb hkth
    rw [← hj] at hkth
    obtain ⟨-, r2, r3, r4, r5, -, -, r8⟩ := hkth
    have hkn : (k : Int) < (n : Int) := by omega
    have hd1 : decide (n ≤ k) = false := decide_eq_false (by omega)
    have HK : Hid (k = pre.length) := hk
    have HJ : Hid (j = (item F k).2) := hj
    have HR4 : Hid (F.testBit j = true) := r4
    have HR5 : Hid (∀ i, b0 ≤ i → i < j → F.testBit i = false) := r5
    have HR8 : Hid (bitFrom F (k + 1) = j + 1) := r8
    clear hI hStL hTL hI0 hBox hbel hops hT c0 c1 c2 hrb hlim hsz hk hb0 hj r4 r5 r8 hstop hlen
    obtain ⟨yi, yj⟩ := y
    dsimp only
    obtain ⟨sn, hsn⟩ : ∃ sn, sn = x % 2 ^ yj := ⟨_, rfl⟩
    rw [← hsn]
    have HSN : Hid (sn = x % 2 ^ yj) := hsn
    clear hsn
    have HJ1 : Hid (b0 ≤ j) := r2
    have hj64 : (j : Int) < 64 := by omega
    clear r2 r3
    gi_wp2_with fail
    gi_loopg [] (j - b0) (fun g wr => ∃ bt : Nat, b0 ≤ bt ∧ bt ≤ j ∧ g = j - bt ∧ Mem wr (W.setCell ⟨w1.heap.size + 1 + 1 + 1 + 1 + 1, 0, none⟩ (.int .i64 (bt : Nat))))
    case atStart => exact ⟨b0, Nat.le_refl _, HJ1.out, rfl, mem_setCell cb⟩
    case round =>
      obtain ⟨bt, hb1, hb2, hg, hmem⟩ := hrel
      have q0 : wr.cell? ⟨p, 0, none⟩ = some (.int .u64 (x : Nat)) := by rw [hmem.cell, World.cell?_setCell_other _ _ _ _ (by simp <;> omega)]; exact e0
      have q1 : wr.cell? ⟨p, 1, none⟩ = some (.int .u64 (F : Nat)) := by rw [hmem.cell, World.cell?_setCell_other _ _ _ _ (by simp <;> omega)]; exact e1
      have q2 : wr.cell? ⟨p, 2, none⟩ = some (.slice (some ⟨rb, 0, none⟩) n sc) := by rw [hmem.cell, World.cell?_setCell_other _ _ _ _ (by simp <;> omega)]; exact e2
      have qw : wr.cell? ⟨w1.heap.size, 0, none⟩ = some (.pointer (some ⟨p, 0, none⟩)) := by rw [hmem.cell, World.cell?_setCell_other _ _ _ _ (by simp)]; exact cw
      have qn : wr.cell? ⟨w1.heap.size + 1, 0, none⟩ = some (.int .i64 (n : Nat)) := by rw [hmem.cell, World.cell?_setCell_other _ _ _ _ (by simp)]; exact cn
      have ql : wr.cell? ⟨w1.heap.size + 1 + 1, 0, none⟩ = some (.int .i64 (lim : Nat)) := by rw [hmem.cell, World.cell?_setCell_other _ _ _ _ (by simp)]; exact cl
      have qc : wr.cell? ⟨w1.heap.size + 1 + 1 + 1, 0, none⟩ = some (.int .i64 (k : Nat)) := by rw [hmem.cell, World.cell?_setCell_other _ _ _ _ (by simp)]; exact cc
      have qb : wr.cell? ⟨w1.heap.size + 1 + 1 + 1 + 1 + 1, 0, none⟩ = some (.int .i64 (bt : Nat)) := by rw [hmem.cell]; exact World.cell?_setCell_same' _ _ _ (by rw [cb]; rfl)
      have gb : wr.frozen? ⟨w1.heap.size + 1 + 1 + 1 + 1 + 1, 0, none⟩ = false := by rw [hmem.frozen, World.frozen?_setCell]; exact fb
      have HM : Hid (Mem wr (W.setCell ⟨w1.heap.size + 1 + 1 + 1 + 1 + 1, 0, none⟩ (.int .i64 (bt : Nat)))) := hmem
      have hbt : (bt : Int) < 64 := by omega
      have hd2 : decide (bt < 64) = true := decide_eq_true (by omega)
      clear hmem e0 e1 e2 cw cn cl cc cb fb
      by_cases hlt2 : bt < j
      · have hbit : bits .and .u64 (F : Int) (IntKind.u64.wrap (2 ^ bt)) = 0 := by
          rw [bit_form F bt (by omega) (by omega), and_bit, if_neg (by simp [HR5.out bt hb1 hlt2])]; rfl
        gi_wp2_with fail
        refine region_quiet (by kernel_rfl) (by kernel_rfl) (by kernel_rfl) ?_
        repeat (gi_big_quiet_step (fail))
        refine wpQuietIn_nil ?_
        rintro _ ⟨nq2, rfl⟩
        gi_wp2_with fail
        gi_roundg (j - (bt + 1))
        case measure => omega
        case rel =>
          refine ⟨bt + 1, by omega, by omega, rfl, ?_⟩
          exact mem_set2 HM.out ⟨rfl, rfl, rfl, rfl⟩
      · obtain rfl : bt = j := by omega
        have hnz : ((F &&& 2 ^ bt : Nat) : Int) ≠ 0 := by
          rw [and_bit, if_pos HR4.out]
          have := Nat.two_pow_pos bt
          omega
        obtain ⟨m, hm⟩ : ∃ m, m = F &&& 2 ^ bt := ⟨_, rfl⟩
        have hbit : bits .and .u64 (F : Int) (IntKind.u64.wrap (2 ^ bt)) = (m : Int) := by rw [bit_form F bt (by omega) (by omega), hm]
        have hm0 : ((m : Int) == 0) = false := by rw [hm]; simpa using hnz
        clear hnz hm
        have hd3 : decide (64 ≤ bt) = false := decide_eq_false (by omega)
        have hd4 : decide ((64 : Int) ≤ (bt : Int)) = false := decide_eq_false (by omega)
        gi_wp2_with fail
        refine region_quiet (by kernel_rfl) (by kernel_rfl) (by kernel_rfl) ?_
        repeat (gi_big_quiet_step (fail))
        refine wpQuietIn_nil ?_
        rintro _ ⟨nq2, rfl⟩
        gi_wp2_with fail
        obtain ⟨P2, hP2⟩ : ∃ P2, P2 = 2 ^ bt := ⟨_, rfl⟩
        have hpw : IntKind.u64.wrap ((2 : Int) ^ bt) = (P2 : Int) := by rw [pow_form bt (by omega), hP2]
        have hP0 : (0 : Int) < (P2 : Int) := by have := Nat.two_pow_pos bt; omega
        obtain ⟨wn, hwn⟩ : ∃ wn, wn = x % P2 := ⟨_, rfl⟩
        have hwx : wn ≤ x := by rw [hwn]; exact Nat.mod_le _ _
        have hrem : (x : Int) % (P2 : Int) = (wn : Int) := by rw [hwn]; simp
        have hrem2 : (x : Int).tmod (P2 : Int) = (wn : Int) := by rw [Int.tmod_eq_emod_of_nonneg (by omega), hrem]
        have hww : IntKind.i64.wrap (wn : Int) = (wn : Int) := by rw [IntKind.wrap_i64]; omega
        have HP2 : Hid (P2 = 2 ^ bt) := hP2
        have HWN : Hid (wn = x % P2) := hwn
        clear hbit hP2 hwn
        refine region_quiet (by kernel_rfl) (by kernel_rfl) (by kernel_rfl) ?_
        repeat (gi_big_quiet_step (fail))
        refine wpQuietIn_nil ?_
        rintro _ ⟨nq3, rfl⟩
        gi_wp2_with fail
        have hneq := neq_in rb yi k
        have qo : ∃ o : Bool, wr.cell? ⟨w1.heap.size + 1 + 1 + 1 + 1, 0, none⟩ = some (.bool o) := by
          obtain ⟨o, co, _⟩ := HI.out.co
          exact ⟨o, by rw [HM.out.cell, World.cell?_setCell_other _ _ _ _ (by simp)]; exact co⟩
        obtain ⟨o, qo⟩ := qo
        have go_ : wr.frozen? ⟨w1.heap.size + 1 + 1 + 1 + 1, 0, none⟩ = false := by rw [HM.out.frozen, World.frozen?_setCell]; exact HI.out.fo
        have gc : wr.frozen? ⟨w1.heap.size + 1 + 1 + 1, 0, none⟩ = false := by rw [HM.out.frozen, World.frozen?_setCell]; exact HI.out.fc
        have hlen : (pre ++ [(yi, yj)]).length = k + 1 := by rw [HK.out]; simp
        -- the end of the round, an 'ok' of o' behind it
        have fin : ∀ (o' : Bool) (W' : World), (pre ++ [(yi, yj)] = items F (pre.length + 1) → o' = true) → Mem W' (((wr.setCell ⟨w1.heap.size + 1 + 1 + 1 + 1 + 1, 0, none⟩ (.int .i64 ((bt : Int) + 1))).setCell ⟨w1.heap.size + 1 + 1 + 1 + 1, 0, none⟩ (.bool o')).setCell ⟨w1.heap.size + 1 + 1 + 1, 0, none⟩ (.int .i64 ((k : Int) + 1))) →
            OI w1.heap.size p n lim F w1 (pre ++ [(yi, yj)]) W' ∧ KB w1.heap.size (w1.heap.size + 1 + 1 + 1 + 1 + 1 + 1) W W' ∧ KeepsFrom WL.heap.size W W' := by
          intro o' W' ho' hm'
          refine order_round o' HI.out ho' ?_
          have e1 : bitFrom F (pre.length + 1) = bt + 1 := by rw [← HK.out]; exact HR8.out
          rw [e1, ← HK.out]
          exact hm'.trans (mem_cong (mem_cong (mem_set2 HM.out ⟨rfl, rfl, rfl, rfl⟩) _ _) _ _)
        have hok : pre ++ [(yi, yj)] = items F (pre.length + 1) → yi = k ∧ sn = wn := by
          intro h
          rw [items_succ] at h
          have h2 : [(yi, yj)] = [item F pre.length] := (List.append_inj h (by rw [items_length])).2
          have h3 : (yi, yj) = item F k := by rw [HK.out]; simpa using h2
          have h4 : yi = k := congrArg Prod.fst h3
          have h5 : yj = bt := by rw [HJ.out]; exact congrArg Prod.snd h3
          exact ⟨h4, by rw [HSN.out, h5, HWN.out, HP2.out]⟩
        have hpre : pre ++ [(yi, yj)] = items F (pre.length + 1) → pre = items F pre.length := by
          intro h
          rw [items_succ] at h
          exact (List.append_inj h (by rw [items_length])).1
        have HOK : Hid (pre ++ [(yi, yj)] = items F (pre.length + 1) → yi = k ∧ sn = wn) := hok
        have qoo : ∃ o : Bool, wr.cell? ⟨w1.heap.size + 1 + 1 + 1 + 1, 0, none⟩ = some (.bool o) ∧ (pre ++ [(yi, yj)] = items F (pre.length + 1) → o = true) := by
          obtain ⟨o, co, ho⟩ := HI.out.co
          exact ⟨o, by rw [HM.out.cell, World.cell?_setCell_other _ _ _ _ (by simp)]; exact co, fun h => ho (hpre h)⟩
        obtain ⟨o2, qo2, ho2⟩ := qoo
        have HO2 : Hid (wr.cell? ⟨w1.heap.size + 1 + 1 + 1 + 1, 0, none⟩ = some (.bool o2) ∧ (pre ++ [(yi, yj)] = items F (pre.length + 1) → o2 = true)) := ⟨qo2, ho2⟩
        have hneg : ¬ (yi = k ∧ sn = wn) → ∀ W', Mem W' (((wr.setCell ⟨w1.heap.size + 1 + 1 + 1 + 1, 0, none⟩ (.bool false)).setCell ⟨w1.heap.size + 1 + 1 + 1 + 1 + 1, 0, none⟩ (.int .i64 ((bt : Int) + 1))).setCell ⟨w1.heap.size + 1 + 1 + 1, 0, none⟩ (.int .i64 ((k : Int) + 1))) → OI w1.heap.size p n lim F w1 (pre ++ [(yi, yj)]) W' ∧ KB w1.heap.size (w1.heap.size + 1 + 1 + 1 + 1 + 1 + 1) W W' ∧ KeepsFrom WL.heap.size W W' := fun hn0 W' hm' =>
          fin false W' (fun h => absurd (hok h) hn0) (hm'.trans (mem_cong (mem_comm wr _ _ _ _ (by omega)) _ _))
        have hpos : ∀ W', Mem W' ((wr.setCell ⟨w1.heap.size + 1 + 1 + 1 + 1 + 1, 0, none⟩ (.int .i64 ((bt : Int) + 1))).setCell ⟨w1.heap.size + 1 + 1 + 1, 0, none⟩ (.int .i64 ((k : Int) + 1))) → OI w1.heap.size p n lim F w1 (pre ++ [(yi, yj)]) W' ∧ KB w1.heap.size (w1.heap.size + 1 + 1 + 1 + 1 + 1 + 1) W W' ∧ KeepsFrom WL.heap.size W W' := fun W' hm' =>
          fin o2 W' ho2 (hm'.trans (mem_cong (mem_setCell (by rw [World.cell?_setCell_other _ _ _ _ (by simp)]; exact qo2)) _ _))
        have FBs : Hid (¬ (yi = k ∧ sn = wn) → ∀ W', Mem W' (((wr.setCell ⟨w1.heap.size + 1 + 1 + 1 + 1, 0, none⟩ (.bool false)).setCell ⟨w1.heap.size + 1 + 1 + 1 + 1 + 1, 0, none⟩ (.int .i64 ((bt : Int) + 1))).setCell ⟨w1.heap.size + 1 + 1 + 1, 0, none⟩ (.int .i64 ((k : Int) + 1))) → KeepsFrom WL.heap.size W W') := fun h1 W' hm' => (hneg h1 W' hm').2.2
        have FBt : Hid (¬ (yi = k ∧ sn = wn) → k = lim → ∀ W', Mem W' (((wr.setCell ⟨w1.heap.size + 1 + 1 + 1 + 1, 0, none⟩ (.bool false)).setCell ⟨w1.heap.size + 1 + 1 + 1 + 1 + 1, 0, none⟩ (.int .i64 ((bt : Int) + 1))).setCell ⟨w1.heap.size + 1 + 1 + 1, 0, none⟩ (.int .i64 ((k : Int) + 1))) → OI w1.heap.size p n lim F w1 (pre ++ [(yi, yj)]) W' ∧ (pre ++ [(yi, yj)]).length = lim + 1) := fun h1 h2 W' hm' => ⟨(hneg h1 W' hm').1, by rw [hlen, h2]⟩
        have FNs : Hid (¬ (yi = k ∧ sn = wn) → k ≠ lim → ∀ W', Mem W' (((wr.setCell ⟨w1.heap.size + 1 + 1 + 1 + 1, 0, none⟩ (.bool false)).setCell ⟨w1.heap.size + 1 + 1 + 1 + 1 + 1, 0, none⟩ (.int .i64 ((bt : Int) + 1))).setCell ⟨w1.heap.size + 1 + 1 + 1, 0, none⟩ (.int .i64 ((k : Int) + 1))) → KeepsFrom WL.heap.size W W' ∧ KB w1.heap.size (w1.heap.size + 1 + 1 + 1 + 1 + 1 + 1) W W' ∧ OI w1.heap.size p n lim F w1 (pre ++ [(yi, yj)]) W' ∧ (pre ++ [(yi, yj)]).length ≤ lim) := fun h1 h2 W' hm' => ⟨(hneg h1 W' hm').2.2, (hneg h1 W' hm').2.1, (hneg h1 W' hm').1, by rw [hlen]; omega⟩
        have FBn : Hid (∀ W', Mem W' ((wr.setCell ⟨w1.heap.size + 1 + 1 + 1 + 1 + 1, 0, none⟩ (.int .i64 ((bt : Int) + 1))).setCell ⟨w1.heap.size + 1 + 1 + 1, 0, none⟩ (.int .i64 ((k : Int) + 1))) → KeepsFrom WL.heap.size W W') := fun W' hm' => (hpos W' hm').2.2
        have FBm : Hid (k = lim → ∀ W', Mem W' ((wr.setCell ⟨w1.heap.size + 1 + 1 + 1 + 1 + 1, 0, none⟩ (.int .i64 ((bt : Int) + 1))).setCell ⟨w1.heap.size + 1 + 1 + 1, 0, none⟩ (.int .i64 ((k : Int) + 1))) → OI w1.heap.size p n lim F w1 (pre ++ [(yi, yj)]) W' ∧ (pre ++ [(yi, yj)]).length = lim + 1) := fun h2 W' hm' => ⟨(hpos W' hm').1, by rw [hlen, h2]⟩
        have FNn : Hid (k ≠ lim → ∀ W', Mem W' ((wr.setCell ⟨w1.heap.size + 1 + 1 + 1 + 1 + 1, 0, none⟩ (.int .i64 ((bt : Int) + 1))).setCell ⟨w1.heap.size + 1 + 1 + 1, 0, none⟩ (.int .i64 ((k : Int) + 1))) → KeepsFrom WL.heap.size W W' ∧ KB w1.heap.size (w1.heap.size + 1 + 1 + 1 + 1 + 1 + 1) W W' ∧ OI w1.heap.size p n lim F w1 (pre ++ [(yi, yj)]) W' ∧ (pre ++ [(yi, yj)]).length ≤ lim) := fun h2 W' hm' => ⟨(hpos W' hm').2.2, (hpos W' hm').2.1, (hpos W' hm').1, by rw [hlen]; omega⟩
        clear fin hlen hok hpre qo2 ho2 hneg hpos HOK HO2
        by_cases hv : (yi != k) = true
        · by_cases hb : ((k : Int) == (lim : Int)) = true
          · refine region_quiet (by kernel_rfl) (by kernel_rfl) (by kernel_rfl) ?_
            repeat (gi_big_quiet_step (fail))
            refine wpQuietIn_nil ?_
            rintro _ ⟨nq4, rfl⟩
            gi_wp2_with fail
            refine ⟨FBs.out (fun h => by simp [h.1] at hv) _ ⟨rfl, rfl, rfl, rfl⟩, rfl, ?_⟩
            exact FBt.out (fun h => by simp [h.1] at hv) (by simp at hb; omega) _ ⟨rfl, rfl, rfl, rfl⟩
          · have hb' : ((k : Int) == (lim : Int)) = false := by simpa using hb
            clear hb
            refine region_quiet (by kernel_rfl) (by kernel_rfl) (by kernel_rfl) ?_
            repeat (gi_big_quiet_step (fail))
            refine wpQuietIn_nil ?_
            rintro _ ⟨nq4, rfl⟩
            gi_wp2_with fail
            exact FNs.out (fun h => by simp [h.1] at hv) (by simp at hb'; omega) _ ⟨rfl, rfl, rfl, rfl⟩
        · have hv' : (yi != k) = false := by simpa using hv
          clear hv
          by_cases hw : ((sn : Int) != (wn : Int)) = true
          · by_cases hb : ((k : Int) == (lim : Int)) = true
            · refine region_quiet (by kernel_rfl) (by kernel_rfl) (by kernel_rfl) ?_
              repeat (gi_big_quiet_step (fail))
              refine wpQuietIn_nil ?_
              rintro _ ⟨nq4, rfl⟩
              gi_wp2_with fail
              refine ⟨FBs.out (fun h => by simp [h.2] at hw) _ ⟨rfl, rfl, rfl, rfl⟩, rfl, ?_⟩
              exact FBt.out (fun h => by simp [h.2] at hw) (by simp at hb; omega) _ ⟨rfl, rfl, rfl, rfl⟩
            · have hb' : ((k : Int) == (lim : Int)) = false := by simpa using hb
              clear hb
              refine region_quiet (by kernel_rfl) (by kernel_rfl) (by kernel_rfl) ?_
              repeat (gi_big_quiet_step (fail))
              refine wpQuietIn_nil ?_
              rintro _ ⟨nq4, rfl⟩
              gi_wp2_with fail
              exact FNs.out (fun h => by simp [h.2] at hw) (by simp at hb'; omega) _ ⟨rfl, rfl, rfl, rfl⟩
          · have hw' : ((sn : Int) != (wn : Int)) = false := by simpa using hw
            clear hw
            by_cases hb : ((k : Int) == (lim : Int)) = true
            · refine region_quiet (by kernel_rfl) (by kernel_rfl) (by kernel_rfl) ?_
              repeat (gi_big_quiet_step (fail))
              refine wpQuietIn_nil ?_
              rintro _ ⟨nq4, rfl⟩
              gi_wp2_with fail
              refine ⟨FBn.out _ ⟨rfl, rfl, rfl, rfl⟩, rfl, ?_⟩
              exact FBm.out (by simp at hb; omega) _ ⟨rfl, rfl, rfl, rfl⟩
            · have hb' : ((k : Int) == (lim : Int)) = false := by simpa using hb
              clear hb
              refine region_quiet (by kernel_rfl) (by kernel_rfl) (by kernel_rfl) ?_
              repeat (gi_big_quiet_step (fail))
              refine wpQuietIn_nil ?_
              rintro _ ⟨nq4, rfl⟩
              gi_wp2_with fail
              exact FNn.out (by simp at hb'; omega) _ ⟨rfl, rfl, rfl, rfl⟩
  case done =>
    rintro D ys W hD hys ⟨hI, hle⟩ hK
    have hlen : ys.length = n := by rw [hys, items_length, HN.out]
    obtain ⟨o, co, ho⟩ := hI.co
    have ho1 : o = true := ho (by rw [hlen, hys, HN.out])
    have hln : lim = n := by omega
    have cn := hI.cn
    have cl := hI.cl
    have cc := hI.cc
    have HB2 : Hid (Below w1.heap.size w1 W) := hI.bel
    rw [hlen] at cc
    rw [ho1] at co
    rw [hln] at cl ⊢
    clear hys hI hle ho ho1 hlen hln
    gi_wp2
    refine ⟨by simp, .inl ⟨_, _, rfl, run_takeDeferred hK, ?_⟩⟩
    exact ⟨_, results_tmp rfl _ _ _, rfl, (HB1.out.trans (HB2.out.mono hs1)).trans (belowK_b (w := w) (Nat.le_refl _) W D _ _ (by omega) hK rfl rfl)⟩
  case stop =>
    rintro D c pre W hD ⟨k, hk, hpre⟩ ⟨hc, hI, hle⟩ hK
    have hlen : pre.length = k := by rw [hpre, items_length]
    obtain ⟨o, co, ho⟩ := hI.co
    have ho1 : o = true := ho (by rw [hlen]; exact hpre)
    have hln : lim < n := by rw [HN.out] at hk; omega
    have cn := hI.cn
    have cl := hI.cl
    have cc := hI.cc
    have HB2 : Hid (Below w1.heap.size w1 W) := hI.bel
    rw [hle] at cc
    rw [ho1] at co
    rw [hc]
    clear hpre hI hle ho ho1 hlen hc hk
    have hln2 : (lim : Int) < (n : Int) := by omega
    gi_wp2
    refine ⟨by simp, .inl ⟨_, _, rfl, run_takeDeferred hK, ?_⟩⟩
    exact ⟨_, results_tmp rfl _ _ _, rfl, (HB1.out.trans (HB2.out.mono hs1)).trans (belowK_b (w := w) (Nat.le_refl _) W D _ _ (by omega) hK rfl rfl)⟩
end Go.Proofs.YbulkfzaDoor
