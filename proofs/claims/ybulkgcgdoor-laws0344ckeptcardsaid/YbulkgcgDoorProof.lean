/-
  Seat b0344aD: the two rows and their tied cards.
-/
import Derived.Test.YbulkgcgDoorRows
import Derived.Test.YbulkgcgDoorCards
import Derived.Test.YbulkgcgDoorTie
import Derived.Test.YbulkgcgDoorLaws
import Derived.ChangeSame
import Derived.ChangeVars
import Derived.ChangeMaps5
import Derived.ChangeOld
import Derived.JoinedOf
import Derived.RowKit
import Derived.RowKitTokens
import Derived.LaidLaws
import Derived.LaidHandle
import Derived.ProofKit
import Derived.OpenShut
import Derived.Stop.Joined
import Derived.SevenTiedAt
namespace Go.Proofs.YbulkgcgDoor
open Go.ChangeShapes Go.WideShapes Go.ChangeAt Go.WideElems Go.RowKit Go.ChangeMaps

theorem own : ownKnob Ybad.prog.godebug = none := by kernel_rfl
/-- The listed variable. -/
abbrev errName : String := Rows.lawS0344CFreshRow.named.headD ""
theorem et : Ybad.prog.globalNamed errName = some 0 := by kernel_rfl
theorem rt : (Ybad.prog.cutTypes.find? (·.1 == "internal/reflectlite.rtype")).map (·.2) = some 54 := by kernel_rfl
theorem oneRow : ((List.range 96).filter fun t => Ybad.prog.rowNamed t [101, 114, 114, 111, 114]) = [26] := by kernel_rfl
theorem tsize : Ybad.prog.types.size = 96 := by kernel_rfl
abbrev theLaid : List (String × DataW Unit) := [(errName, Rows.laid_errors_errorType)]

/-- What the condition gives a walk: the variable's one cell. -/
theorem reg_of_laid {W : World} (h : laidMetH Ybad.prog theLaid W) : Reg W := by
  have h' : laidMet Ybad.prog [] W ∧ handlesMet Ybad.prog theLaid W := h
  obtain ⟨name, u, ty, e1, e2, e3, e4, e5⟩ := h'.2 _ (List.mem_singleton.2 rfl)
  have en : name = [101, 114, 114, 111, 114] := (Option.some.inj e1).symm
  subst en
  obtain rfl := Option.some.inj (rt.symm.trans e2)
  have hm : ty ∈ (List.range 96).filter fun t => Ybad.prog.rowNamed t [101, 114, 114, 111, 114] := List.mem_filter.2 ⟨List.mem_range.2 (by rw [← tsize]; exact e3), e4⟩
  rw [oneRow] at hm
  obtain rfl := List.mem_singleton.1 hm
  have hh : typeHandle Ybad.prog 26 = .pointer (some ⟨1, 26, none⟩) := by kernel_rfl
  rw [hh] at e5
  simpa using World.var?_cell et e5 0

/-- A world that meets the condition: the settled one, the variable's cell laid. -/
noncomputable def laidWorld (os : Os) : World :=
  let w0 := World.holding Ybad.prog os ⟨#[], #[], []⟩
  { w0 with heap := w0.heap.modify 0 fun
      | .cells _ t frozen => .cells #[.iface 54 (.agg #[.pointer (some ⟨1, 26, none⟩)])] t frozen
      | o => o }
theorem laidWorld_met (os : Os) (args : Array Value) : laidMetH Ybad.prog theLaid ((laidWorld os).forCall (fun _ _ => 0) ⟨#[], args, []⟩).memory :=
  laidMetH_of_parts (laidMet_nil _ _) (by kernel_rfl)

set_option maxRecDepth 100000 in
theorem fresh_lifted (os : Os) (started : os.Started) (H : Type) (enc : TypeId × Value → H) :
    ReturnsInHanded {} Ybad.checked os 3 .any (fun w args => (Rows.lawS0344CFreshSpec.pre enc Ybad.prog Ybad.f3 [] false w args ∧ laidMetH Ybad.prog theLaid w) ∧ sizedMet enc Ybad.prog Ybad.f3 (OpenSpec.ofChange Rows.lawS0344CFreshSpec) false w args)
      (Rows.lawS0344CFreshSpec.post enc Ybad.prog Ybad.f3 false true false false) := by
  refine returnsInHanded_of_change_and (C := Ybad.checked) (X := fun w _ => laidMetH Ybad.prog theLaid w) (fun _ _ _ hh h => h.of_heap hh) own started (by kernel_rfl) Ybad.func3
    (ChangeSpec.witness_at (enc := enc) (C := Ybad.checked) (os := os) (X := fun w _ => laidMetH Ybad.prog theLaid w) false (laidWorld os) #[.string ⟨#[]⟩, .int .i64 0] 8 rfl (by kernel_rfl) (by kernel_rfl) (by kernel_rfl) (by kernel_rfl) (by kernel_rfl) (laidWorld_met os _)) ?_
  intro W base args ds gs before hval0 hW _ _ hL _
  have hval : ∀ (j : Nat) t v, Ybad.f3.params[j]? = some t → args[j]? = some v → Value.okWide Ybad.prog W .any base t v := hval0
  have hW' := hW
  obtain ⟨p, q, hA0, hV, rfl, hfz, hnd⟩ := hW
  have hA : DataW.TrodAll enc Ybad.prog W 0 (fun _ => true) true Ybad.f3.params.toList args.toList ds p := hA0
  rw [Ybad.params3] at hA hval
  obtain ⟨v0, v1, d0, d1, p0, p1, rfl, rfl, rfl, h0, h1⟩ := trodAll_two hA
  obtain ⟨rfl, rfl⟩ := trodVars_none hV
  obtain ⟨s, rfl, rfl, rfl, hs⟩ := open_string Ybad.underlying9 (hval 0 9 v0 rfl rfl) h0
  obtain ⟨n, rfl, rfl, rfl, wn⟩ := open_int Ybad.underlying3 (hval 1 3 v1 rfl rfl) h1
  have hg := reg_of_laid hL
  clear hA0 hval0
  refine (law_fresh s n W hg).mono fun e W' ⟨he, bel⟩ => ?_
  subst he
  exact ⟨_, rfl, _, _, _, [], _, [], hW', trodAll_mk1 (shut_bool Ybad.underlying4 _), trodAll_mk2 (shut_string Ybad.underlying9 hs) (shut_int Ybad.underlying3 wn), rfl, bel.frame _, fun h => by cases h⟩

theorem fresh_row : Rows.LawS0344CFreshSaid :=
  OpenClaim.holds_of_wide 3 Ybad.f3 rfl rfl rfl rfl rfl rfl rfl ⟨rfl, rfl, rfl, rfl, rfl⟩ rfl rfl rfl rfl rfl (by kernel_rfl) Ybad.func3 (by kernel_rfl)
    (of_decide_eq_true (by kernel_rfl)) (by unfold Func.isWrapper; first | (rw [if_pos (by decide +kernel)]; kernel_rfl) | (rw [if_neg (by decide +kernel)]; exact ⟨rfl, rfl⟩))
    (fun os started H enc _ => fresh_lifted os started H enc)

/-- THE TIED CARD. -/
theorem fresh_card : Rows.LawS0344CFreshCardSaid :=
  Claim7.holds_tied_plain_at .later [] [.handle] true (true, "79f824e53e519254e7facde884783321d1440e66543383acafcc50317c386721") true
    fresh_row (fun _ h => by cases h) (by kernel_rfl) (fun _ h => by cases h) lawS0344CFresh_row_tie rfl ⟨rfl, rfl⟩ (by kernel_rfl) rfl
    (fun f fn hf hfn => by
      obtain rfl : f = 3 := Option.some.inj ((show Ybad.prog.funcNamed Rows.lawS0344CFreshRow.func = some 3 by kernel_rfl).symm.trans hf) |>.symm
      obtain rfl : fn = Ybad.f3 := (Option.some.inj (Ybad.func3.symm.trans hfn)).symm
      exact ⟨by kernel_rfl, fun j t ht => by
        rw [Ybad.params3] at ht
        have hm : t ∈ [9, 3] := by simpa using Array.mem_of_getElem? ht
        have hall : ([9, 3].all fun u => !Ybad.prog.wantsStandIn u) = true := by kernel_rfl
        exact (show Ybad.prog.wantsStandIn t = false by simpa using List.all_eq_true.1 hall t hm)⟩)
    (by kernel_rfl)

theorem law_kept (sel line inLine : Int) (s : ByteArray) (r : Bool) (w : World) (hs : 0 ≤ sel ∧ sel < 256) (hg : Reg w) :
    Calls Ybad.prog 4 #[.int .u8 sel, .int .i64 line, .int .i64 inLine, .string s, .bool r] w fun e w' => e = .returned (.bool true) ∧ Below w.heap.size w w' := by
  have h3 : sel % 3 = 0 ∨ sel % 3 = 1 ∨ sel % 3 = 2 := by omega
  rcases h3 with h | h | h
  · exact law_kept0 sel line inLine s r w hs h
  · exact law_kept1 sel line inLine s r w hs h hg
  · exact law_kept2 sel line inLine s r w hs h hg

set_option maxRecDepth 100000 in
theorem kept_lifted (os : Os) (started : os.Started) (H : Type) (enc : TypeId × Value → H) :
    ReturnsInHanded {} Ybad.checked os 4 .any (fun w args => (Rows.lawS0344CKeptSpec.pre enc Ybad.prog Ybad.f4 [] false w args ∧ laidMetH Ybad.prog theLaid w) ∧ sizedMet enc Ybad.prog Ybad.f4 (OpenSpec.ofChange Rows.lawS0344CKeptSpec) false w args)
      (Rows.lawS0344CKeptSpec.post enc Ybad.prog Ybad.f4 false true false false) := by
  refine returnsInHanded_of_change_and (C := Ybad.checked) (X := fun w _ => laidMetH Ybad.prog theLaid w) (fun _ _ _ hh h => h.of_heap hh) own started (by kernel_rfl) Ybad.func4
    (ChangeSpec.witness_at (enc := enc) (C := Ybad.checked) (os := os) (X := fun w _ => laidMetH Ybad.prog theLaid w) false (laidWorld os) #[.int .u8 0, .int .i64 0, .int .i64 0, .string ⟨#[]⟩, .bool false] 8 rfl (by kernel_rfl) (by kernel_rfl) (by kernel_rfl) (by kernel_rfl) (by kernel_rfl) (laidWorld_met os _)) ?_
  intro W base args ds gs before hval0 hW _ _ hL _
  have hval : ∀ (j : Nat) t v, Ybad.f4.params[j]? = some t → args[j]? = some v → Value.okWide Ybad.prog W .any base t v := hval0
  have hW' := hW
  obtain ⟨p, q, hA0, hV, rfl, hfz, hnd⟩ := hW
  have hA : DataW.TrodAll enc Ybad.prog W 0 (fun _ => true) true Ybad.f4.params.toList args.toList ds p := hA0
  rw [Ybad.params4] at hA hval
  obtain ⟨v0, vs0, d0, ds0, p0, q0, ha0, rfl, rfl, h0, r0⟩ := trodAll_cons hA
  obtain ⟨v1, vs1, d1, ds1, p1, q1, rfl, rfl, rfl, h1, r1⟩ := trodAll_cons r0
  obtain ⟨v2, vs2, d2, ds2, p2, q2, rfl, rfl, rfl, h2, r2⟩ := trodAll_cons r1
  obtain ⟨v3, vs3, d3, ds3, p3, q3, rfl, rfl, rfl, h3, r3⟩ := trodAll_cons r2
  obtain ⟨v4, vs4, d4, ds4, p4, q4, rfl, rfl, rfl, h4, r4⟩ := trodAll_cons r3
  obtain ⟨rfl, rfl, rfl⟩ := trodAll_nil r4
  obtain rfl : args = #[v0, v1, v2, v3, v4] := by cases args; simp_all
  obtain ⟨rfl, rfl⟩ := trodVars_none hV
  obtain ⟨sel, rfl, rfl, rfl, ws⟩ := open_int Ybad.underlying5 (hval 0 5 v0 rfl rfl) h0
  obtain ⟨line, rfl, rfl, rfl, wl⟩ := open_int Ybad.underlying3 (hval 1 3 v1 rfl rfl) h1
  obtain ⟨inl, rfl, rfl, rfl, wi⟩ := open_int Ybad.underlying3 (hval 2 3 v2 rfl rfl) h2
  obtain ⟨s, rfl, rfl, rfl, hs⟩ := open_string Ybad.underlying9 (hval 3 9 v3 rfl rfl) h3
  obtain ⟨r, rfl, rfl, rfl⟩ := open_bool Ybad.underlying4 (hval 4 4 v4 rfl rfl) h4
  have hb := bounds_u8 ws
  have hg := reg_of_laid hL
  clear hA0 hval0
  refine (law_kept sel line inl s r W (by omega) hg).mono fun e W' ⟨he, bel⟩ => ?_
  subst he
  exact ⟨_, rfl, _, _, _, [], _, [], hW', trodAll_mk1 (shut_bool Ybad.underlying4 _), trodAll_cons_mk (shut_int Ybad.underlying5 ws) (trodAll_cons_mk (shut_int Ybad.underlying3 wl) (trodAll_mk3 (shut_int Ybad.underlying3 wi) (shut_string Ybad.underlying9 hs) (shut_bool Ybad.underlying4 r))), rfl, bel.frame _, fun h => by cases h⟩

theorem kept_row : Rows.LawS0344CKeptSaid :=
  OpenClaim.holds_of_wide 4 Ybad.f4 rfl rfl rfl rfl rfl rfl rfl ⟨rfl, rfl, rfl, rfl, rfl⟩ rfl rfl rfl rfl rfl (by kernel_rfl) Ybad.func4 (by kernel_rfl)
    (of_decide_eq_true (by kernel_rfl)) (by unfold Func.isWrapper; first | (rw [if_pos (by decide +kernel)]; kernel_rfl) | (rw [if_neg (by decide +kernel)]; exact ⟨rfl, rfl⟩))
    (fun os started H enc _ => kept_lifted os started H enc)

/-- THE TIED CARD. -/
theorem kept_card : Rows.LawS0344CKeptCardSaid :=
  Claim7.holds_tied_plain_at .later [] [.handle] true (true, "79f824e53e519254e7facde884783321d1440e66543383acafcc50317c386721") true
    kept_row (fun _ h => by cases h) (by kernel_rfl) (fun _ h => by cases h) lawS0344CKept_row_tie rfl ⟨rfl, rfl⟩ (by kernel_rfl) rfl
    (fun f fn hf hfn => by
      obtain rfl : f = 4 := Option.some.inj ((show Ybad.prog.funcNamed Rows.lawS0344CKeptRow.func = some 4 by kernel_rfl).symm.trans hf) |>.symm
      obtain rfl : fn = Ybad.f4 := (Option.some.inj (Ybad.func4.symm.trans hfn)).symm
      exact ⟨by kernel_rfl, fun j t ht => by
        rw [Ybad.params4] at ht
        have hm : t ∈ [5, 3, 9, 4] := by
          have := Array.mem_of_getElem? ht
          simp at this
          simp; omega
        have hall : ([5, 3, 9, 4].all fun u => !Ybad.prog.wantsStandIn u) = true := by kernel_rfl
        exact (show Ybad.prog.wantsStandIn t = false by simpa using List.all_eq_true.1 hall t hm)⟩)
    (by kernel_rfl)
end Go.Proofs.YbulkgcgDoor
