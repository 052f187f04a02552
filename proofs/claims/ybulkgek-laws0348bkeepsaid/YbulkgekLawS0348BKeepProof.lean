/-
  Seat b0348a: 'Rows.LawS0348BKeepSaid', proved. The walk lies in YbulkgekKeep; the frame is that of LawS0348BOne's given shell, turned by hand to seven parameters.
-/
import Derived.Test.YbulkgekRows
import Derived.WalkKit
import Derived.ProofKit
import Derived.OpenShut
import Derived.ShutString
import Derived.ChangeOld
import Derived.Below
import Derived.Deep.Slices
import Derived.Deep.Strs
import Derived.Test.YbulkgekKeep
import Derived.Test.YbulkgekKeepOut
namespace Go.Proofs.Ybulkgek.lawS0348BKeep
open Go.ChangeShapes Go.WideShapes Go.ChangeAt Go.WideElems Go.RowKit Go.Deep
open Go.ChangeMaps (open_string shut_string)
set_option linter.unusedVariables false

theorem own : ownKnob Yba.prog.godebug = none := by kernel_rfl
theorem laidOut : laidOutB Yba.prog = true := by kernel_rfl

/-- WHAT THE WALK IS TOLD OF A SLICE OF INTEGERS THAT CAME IN: it is nil; or it leads to a row of 'cap' cells, the numbers 'zs' (the first 'len' are its elements, the rest its spare room), each fitting its kind. -/
def IsRow (k : IntKind) (w : World) (a : Option Addr) (len cap : Nat) (zs : List Int) : Prop :=
  (a = none ∧ len = 0 ∧ cap = 0 ∧ zs = []) ∨
  ∃ x, a = some x ∧ len ≤ cap ∧ cap ≤ maxLen ∧ zs.length = cap ∧ (∀ i, i < zs.length → w.cell? (x.add i) = some (.int k (zs.getD i 0))) ∧ ∀ n ∈ zs, (Lit.int k n).wf = true

/-- The runs by number: the first comes alone. -/
def runFn (r0 : Int) (zs : List Int) : Nat → Int
  | 0 => r0
  | m + 1 => zs.getD m 0

theorem runs_of {w : World} {a : Option Addr} {len cap : Nat} {zs : List Int} (r0 : Int) (h : IsRow .u64 w a len cap zs) : Runs w.heap.size w a len (runFn r0 zs) := by
  rcases h with ⟨_, h0, _, _⟩ | ⟨x, rfl, hl, _, hz, hc, _⟩
  · exact .inl h0
  · by_cases h0 : len = 0
    · exact .inl h0
    · have hc0 := hc 0 (by omega)
      obtain ⟨b, off, spot⟩ := x
      obtain rfl : spot = Option.none := World.cell?_spot hc0
      have hb : b < w.heap.size := block_lt_of_cell hc0
      refine .inr ⟨b, off, rfl, hb, fun k hk => ?_⟩
      have := hc k (by omega)
      simpa [Addr.add_lit, runFn] using this

theorem exists_list {P : Nat → C3 → Prop} : ∀ n, (∀ k, k < n → ∃ x, P k x) → ∃ os : List C3, os.length = n ∧ ∀ k x, os[k]? = some x → P k x
  | 0, _ => ⟨[], rfl, fun k x h => by simp at h⟩
  | n + 1, h => by
    obtain ⟨os, hl, ho⟩ := exists_list n (fun k hk => h k (by omega))
    obtain ⟨x, hx⟩ := h n (by omega)
    refine ⟨os ++ [x], by simp [hl], fun k y hy => ?_⟩
    by_cases hk : k < n
    · rw [List.getElem?_append_left (by omega)] at hy
      exact ho k y hy
    · rw [List.getElem?_append_right (by omega)] at hy
      have hk0 : k = n := by
        have := (List.getElem?_eq_some_iff.1 hy).1
        simp at this
        omega
      subst hk0
      rw [hl, Nat.sub_self] at hy
      simp at hy
      subst hy
      exact hx

theorem cells68 : Yba.prog.cellsOf 68 = 3 := by kernel_rfl
theorem cells2 : Yba.prog.cellsOf 2 = 1 := by kernel_rfl
theorem cells3 : Yba.prog.cellsOf 3 = 1 := by kernel_rfl
theorem cells22 : Yba.prog.cellsOf 22 = 1 := by kernel_rfl

theorem cells_three {w : World} {a : Addr} {cs : List Value} (h : w.cells? 0 a 3 = some cs) : ∃ c0 c1 c2, cs = [c0, c1, c2] ∧ w.cell? (a.add 0) = some c0 ∧ w.cell? (a.add 1) = some c1 ∧ w.cell? (a.add 2) = some c2 := by
  simp only [World.cells?, Nat.zero_le, if_true, List.range_succ, List.range_zero, List.nil_append, List.cons_append, List.mapM_cons, List.mapM_nil] at h
  simp only [Option.bind_eq_bind, Option.bind_eq_some_iff, Option.pure_def, Option.some.injEq] at h
  obtain ⟨c0, h0, l1, ⟨c1, h1, l2, ⟨c2, h2, l3, rfl, rfl⟩, rfl⟩, rfl⟩ := h
  exact ⟨c0, c1, c2, rfl, h0, h1, h2⟩

/-- The old completions, as the walk asks them. -/
theorem olds_of {H : Type} {enc : TypeId × Value → H} {W : World} {a : Option Addr} {len cap : Nat} {d : DataW H} {ps : List MemPlace} (h : DataW.Trod enc Yba.prog W 0 (fun _ => true) true 66 (.slice a len cap) d ps) : ∃ os, Olds W.heap.size W a len os := by
  obtain ⟨fuel, hf⟩ := h
  by_cases h0 : len = 0
  · exact ⟨[], by simp [h0], .inl h0⟩
  rcases open_slice Yba.underlying66 hf with ⟨hcs, _⟩ | ⟨x, l, c, m, n, D, Pl, hcs, _, hl, _, hm, _, hel⟩
  · simp [Value.cells] at hcs
    omega
  · simp [Value.cells] at hcs
    obtain ⟨rfl, rfl, rfl⟩ := hcs
    simp only [if_true] at hm
    have get : ∀ k, k < len → ∃ y : C3, W.cell? ((x.add (k * 3)).add 0) = some (.int .i64 y.1) ∧ W.cell? ((x.add (k * 3)).add 1) = some (.int .i64 y.2.1) ∧ W.cell? ((x.add (k * 3)).add 2) = some (.int .u64 y.2.2) := by
      intro k hk
      obtain ⟨cs', h1, h2⟩ := hel k (by omega)
      rw [cells68] at h1
      obtain ⟨c0, c1, c2, rfl, g0, g1, g2⟩ := cells_three h1
      obtain ⟨y0, y1, y2, n', _, _, t0, t1, t2⟩ := trod_struct3 Yba.underlying68 h2
      simp only [cells2, cells3, cells22, List.drop_zero, List.take_succ_cons, List.take_zero, List.drop_succ_cons] at t0 t1 t2
      obtain ⟨o, e0, _, _⟩ := DataW.trod_int Yba.underlying2 t0
      obtain ⟨A, e1, _, _⟩ := DataW.trod_int Yba.underlying3 t1
      obtain ⟨V, e2, _, _⟩ := DataW.trod_int Yba.underlying22 t2
      simp only [List.cons.injEq, and_true] at e0 e1 e2
      subst e0; subst e1; subst e2
      exact ⟨(o, A, V), g0, g1, g2⟩
    obtain ⟨os, hol, hos⟩ := exists_list len get
    obtain ⟨b, off, spot⟩ := x
    obtain ⟨y, g0, _, _⟩ := get 0 (by omega)
    have hsp : spot = Option.none := by simpa [Addr.add] using World.cell?_spot g0
    subst hsp
    refine ⟨os, hol, .inr ⟨b, off, rfl, ?_, fun k y hy => ?_⟩⟩
    · have := block_lt_of_cell g0
      simpa [Addr.add] using this
    · have h3 := hos k y hy
      simp only [Addr.add_lit, Nat.add_zero] at h3
      exact h3

/-! ### STEP 1: THE WALK: the Go text returns true, AND WRITES NOTHING THAT WAS THERE: 'Below w.heap.size w w'' (Derived/Below.lean: '.refl', '.alloc', '.drew', '.setCell' at a new block, '.trans'). Open each 'IsRow' by 'rcases' AHEAD of 'go_enter'; part every test ahead of the walk. -/
theorem walk (a0 : Int) (a1 : Int) (a2 : Int) (a3 : Int) (a4 : Option Addr) (len4 cap4 : Nat) (z4 : List Int) (a5 : Int) (a6 : Option Addr) (len6 cap6 : Nat) (z6 : List C3) (w : World) (w0 : (Lit.int .i64 a0).wf = true) (w1 : (Lit.int .i64 a1).wf = true) (w2 : (Lit.int .i64 a2).wf = true) (w3 : (Lit.int .u64 a3).wf = true) (w4 : IsRow .u64 w a4 len4 cap4 z4) (w5 : (Lit.int .u64 a5).wf = true) (w6 : Olds w.heap.size w a6 len6 z6) :
    Calls Yba.prog 4 #[.int .i64 a0, .int .i64 a1, .int .i64 a2, .int .u64 a3, .slice a4 len4 cap4, .int .u64 a5, .slice a6 len6 cap6] w fun e w' => e = .returned (.bool true) ∧ Below w.heap.size w w' := by
  obtain ⟨l0, u0⟩ := bounds_i64 w0
  obtain ⟨l1, u1⟩ := bounds_i64 w1
  obtain ⟨l2, u2⟩ := bounds_i64 w2
  obtain ⟨l5, u5⟩ := bounds_u64 w5
  by_cases hlen : (len4 : Int) ≤ 1024
  · by_cases hold : (len6 : Int) ≤ 256
    · by_cases hneg : a1 < 0
      · refine (keep_neg a0 a1 a2 a5 a3 a4 len4 cap4 a6 len6 cap6 w hlen hold hneg).mono fun e w' h => ⟨h.1, ?_⟩
        rw [h.2]; exact Below.refl _ _
      · by_cases hpast : a0 < a1
        · refine (keep_past a0 a1 a2 a5 a3 a4 len4 cap4 a6 len6 cap6 w hlen hold (by omega) hpast).mono fun e w' h => ⟨h.1, ?_⟩
          rw [h.2]; exact Below.refl _ _
        · have hsel : a5 = ((a5.toNat : Nat) : Int) := by omega
          rw [hsel]
          by_cases hd : a2 ≤ a0 - a1
          · exact keep_core a0 a1 a2 (a1 + a2) a5.toNat _ (runFn a3 z4) a4 len4 cap4 a6 len6 cap6 z6 w hlen hold (by omega) (by omega) (by omega) (by omega) (by omega) rfl (runs_of a3 w4) w6 (.inl ⟨hd, rfl⟩) (fun w => at_soon a0 a1 a2 w (by omega) (by omega) (by omega) (by omega) hd)
          · exact keep_core a0 a1 a2 (wrap64 (a0 + 1)) a5.toNat _ (runFn a3 z4) a4 len4 cap4 a6 len6 cap6 z6 w hlen hold (by omega) (by omega) (by omega) (by omega) (by omega) rfl (runs_of a3 w4) w6 (.inr ⟨by omega, rfl⟩) (fun w => at_late a0 a1 a2 w (by omega) (by omega) (by omega) (by omega))
    · refine (keep_many a0 a1 a2 a5 a3 a4 len4 cap4 a6 len6 cap6 w hlen (by omega)).mono fun e w' h => ⟨h.1, ?_⟩
      rw [h.2]; exact Below.refl _ _
  · refine (keep_long a0 a1 a2 a5 a3 a4 len4 cap4 a6 len6 cap6 w (by omega)).mono fun e w' h => ⟨h.1, ?_⟩
    rw [h.2]; exact Below.refl _ _

/-! ### THE ROW's STEP: WRITTEN OUT: LEAVE IT -/
set_option maxRecDepth 100000 in
theorem lifted (os : Os) (started : os.Started) (H : Type) (enc : TypeId × Value → H) :
    ReturnsInHanded {} Yba.checked os 4 .any (Rows.lawS0348BKeepSpec.pre6 enc Yba.prog Yba.f4 Rows.lawS0348BKeepRow.domain false) (Rows.lawS0348BKeepSpec.post enc Yba.prog Yba.f4 false true false false) := by
  refine returnsInHanded_of_change (C := Yba.checked) own started (by kernel_rfl) Yba.func4
    (ChangeSpec.witness6 (enc := enc) (C := Yba.checked) false ⟨#[], #[.int .i64 0, .int .i64 0, .int .i64 0, .int .u64 0, .slice none 0 0, .int .u64 0, .slice none 0 0], []⟩ 8 (by kernel_rfl) (by kernel_rfl) (by kernel_rfl) (by kernel_rfl)) ?_
  intro W base args ds gs before hval0 hW hcnd _
  have hval : ∀ (j : Nat) t v, Yba.f4.params[j]? = some t → args[j]? = some v → Value.okWide Yba.prog W .any base t v := hval0
  have hW' := hW
  obtain ⟨p, q, hA0, hV, rfl, hfz, hnd⟩ := hW
  have hA : DataW.TrodAll enc Yba.prog W 0 (fun _ => true) true Yba.f4.params.toList args.toList ds p := hA0
  rw [Yba.params4] at hA hval
  obtain ⟨v0, vs0, d0, ds0, p0, q0, hargs, rfl, rfl, h0, r0⟩ := trodAll_cons hA
  obtain ⟨v1, vs1, d1, ds1, p1, q1, rfl, rfl, rfl, h1, r1⟩ := trodAll_cons r0
  obtain ⟨v2, vs2, d2, ds2, p2, q2, rfl, rfl, rfl, h2, r2⟩ := trodAll_cons r1
  obtain ⟨v3, vs3, d3, ds3, p3, q3, rfl, rfl, rfl, h3, r3⟩ := trodAll_cons r2
  obtain ⟨v4, vs4, d4, ds4, p4, q4, rfl, rfl, rfl, h4, r4⟩ := trodAll_cons r3
  obtain ⟨v5, vs5, d5, ds5, p5, q5, rfl, rfl, rfl, h5, r5⟩ := trodAll_cons r4
  obtain ⟨v6, vs6, d6, ds6, p6, q6, rfl, rfl, rfl, h6, r6⟩ := trodAll_cons r5
  obtain ⟨rfl, rfl, rfl⟩ := trodAll_nil r6
  obtain rfl : args = #[v0, v1, v2, v3, v4, v5, v6] := by cases args; simp_all
  obtain ⟨rfl, rfl⟩ := trodVars_none hV
  obtain ⟨a0, rfl, rfl, rfl, w0⟩ := open_int Yba.underlying2 (hval 0 2 v0 rfl rfl) h0
  obtain ⟨a1, rfl, rfl, rfl, w1⟩ := open_int Yba.underlying2 (hval 1 2 v1 rfl rfl) h1
  obtain ⟨a2, rfl, rfl, rfl, w2⟩ := open_int Yba.underlying2 (hval 2 2 v2 rfl rfl) h2
  obtain ⟨a3, rfl, rfl, rfl, w3⟩ := open_int Yba.underlying22 (hval 3 22 v3 rfl rfl) h3
  obtain ⟨a4, len4, cap4, rfl⟩ := okWide_slice Yba.underlying23 (hval 4 23 v4 rfl rfl)
  have k4 := h4
  have lt4 : ∀ x ∈ p4, x.block < W.heap.size := by obtain ⟨m, hm⟩ := k4; exact DataW.trod_lt m _ _ _ hm
  obtain ⟨z4, w4⟩ : ∃ zs, IsRow .u64 W a4 len4 cap4 zs := by
    obtain ⟨fuel, hf⟩ := h4
    rcases open_ints Yba.underlying23 Yba.underlying22 (by kernel_rfl) hf with ⟨hcs, _⟩ | ⟨x, l, c, zs, hcs, _, hl, hm, hz, _, hcell, hwz⟩
    · simp [Value.cells] at hcs
      obtain ⟨rfl, rfl, rfl⟩ := hcs
      exact ⟨[], .inl ⟨rfl, rfl, rfl, rfl⟩⟩
    · simp [Value.cells] at hcs
      obtain ⟨rfl, rfl, rfl⟩ := hcs
      exact ⟨zs, .inr ⟨_, rfl, hl, hm, by simpa using hz, hcell, hwz⟩⟩
  obtain ⟨a5, rfl, rfl, rfl, w5⟩ := open_int Yba.underlying24 (hval 5 24 v5 rfl rfl) h5
  obtain ⟨a6, len6, cap6, rfl⟩ := okWide_slice Yba.underlying66 (hval 6 66 v6 rfl rfl)
  have k6 := h6
  have lt6 : ∀ x ∈ p6, x.block < W.heap.size := by obtain ⟨m, hm⟩ := k6; exact DataW.trod_lt m _ _ _ hm
  obtain ⟨z6, w6⟩ := olds_of k6
  clear hA0 hval0
  refine (walk a0 a1 a2 a3 a4 len4 cap4 z4 a5 a6 len6 cap6 z6 W w0 w1 w2 w3 w4 w5 w6).mono fun e W' ⟨he, bel⟩ => ?_
  subst he
  exact ⟨_, rfl, _, _, _, [], _, [], hW', trodAll_mk1 (shut_bool Yba.underlying4 _), (trodAll_cons_mk (shut_int Yba.underlying2 w0) (trodAll_cons_mk (shut_int Yba.underlying2 w1) (trodAll_cons_mk (shut_int Yba.underlying2 w2) (trodAll_cons_mk (shut_int Yba.underlying22 w3) (trodAll_cons_mk (Below.trod laidOut (by kernel_rfl) (of_decide_eq_true (by kernel_rfl)) k4 bel lt4) (trodAll_cons_mk (shut_int Yba.underlying24 w5) (trodAll_cons_mk (Below.trod laidOut (by kernel_rfl) (of_decide_eq_true (by kernel_rfl)) k6 bel lt6) trodAll_mk0))))))), rfl, bel.frame _, fun h => by cases h⟩

theorem over : Rows.lawS0348BKeepRow.holds Yba.pinned (OpenSpec.ofChange Rows.lawS0348BKeepSpec) :=
  OpenClaim.holds_of_wide 4 Yba.f4 rfl rfl rfl rfl rfl rfl rfl ⟨rfl, rfl, rfl, rfl, rfl⟩ rfl rfl rfl rfl rfl (by kernel_rfl) Yba.func4 (by kernel_rfl)
    (of_decide_eq_true (by kernel_rfl)) (by unfold Func.isWrapper; first | (rw [if_pos (by decide +kernel)]; kernel_rfl) | (rw [if_neg (by decide +kernel)]; exact ⟨rfl, rfl⟩))
    (fun os started H enc _ => lifted os started H enc)

/-- ████ THE STATEMENT ████ -/
theorem proved : Rows.LawS0348BKeepSaid := over
end Go.Proofs.Ybulkgek.lawS0348BKeep
namespace Go.Proofs.Ybulkgek
theorem keep_said : Rows.LawS0348BKeepSaid := lawS0348BKeep.proved
end Go.Proofs.Ybulkgek
