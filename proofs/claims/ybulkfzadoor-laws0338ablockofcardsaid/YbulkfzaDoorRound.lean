/-
  Seat b0338aD: a region that draws its order, read-only, INSIDE A ROUND of a range over a function: one walk in the text's order serves every order. (The library's law, Derived/Sort/QuietThIn.lean's 'wpIn_region_quiet', asks to stand outside every round; all that it uses of that is that an operation is run as outside: so it is at every operation that is no defer statement.)
-/
import Derived.Sort.BigQuietIn
import Derived.TacticsIn
namespace Go.Proofs.YbulkfzaDoor
open Go

/-- No operation of the list is a defer statement. -/
def calm (l : List Oper) : Bool := l.all fun o => match o.op with | .defer _ => false | _ => true

theorem calm_sem {l : List Oper} (h : calm l = true) {i : Nat} {o : Oper} (hi : l.toArray[i]? = some o) (r : Option Nat) (ρ : Operand → Value) : o.semAt r ρ = execOp ρ o := by
  have hm : o ∈ l := List.mem_of_getElem? (by simpa using hi)
  have := List.all_eq_true.1 h o hm
  cases r with
  | none => exact Oper.semAt_none ..
  | some k =>
    refine Oper.semAt_some k ρ o (fun c hc => ?_)
    rw [hc] at this
    cases this

variable {F : Fence} {n : Nat} {P : Program} {C : World → Prop}

theorem op_of_quiet {o : Oper} {a : Act} {K : Act → Prop} {K' : Act → World → Prop} {Q' : Exit → Act → World → Prop} {w : World} (hs : o.semAt F.round a.eval = execOp a.eval o) (hw : C w) (h : ∀ a w', C w' → K a → K' a w')
    (ha : o.askedIn F P a C) (hh : o.quietIn F n P a C K) : o.wpIn F n P a w K' Q' := by
  obtain ⟨v, h1, h2⟩ := hh
  have h3 : Oper.quietUponIn F n P C w v ((execOp a.eval o).run P w) := h1 w hw
  refine ⟨ha w hw, ?_⟩
  rw [hs]
  revert h3
  generalize (execOp a.eval o).run P w = r
  intro h3
  match r, h3 with
  | .ok (.value u) w', ⟨e1, e2⟩ => subst e1; subst e2; exact h _ _ hw h2
  | .ok .skip w', ⟨e1, e2⟩ => subst e1; subst e2; exact h _ _ hw h2
  | .ok (.enter f args) w', ⟨e1, hd, hc⟩ =>
    subst e1
    exact ⟨hd, hc.mono fun e w'' ⟨he, hw''⟩ => by subst he; exact h _ _ hw'' h2⟩

theorem any_of_quiet {l : List Oper} {Q : Act → Prop} {Q' : Exit → Act → World → Prop} (hl : calm l = true) (hQ : ∀ a w, C w → Q a → Q' .normal a w) : ∀ (fuel : Nat) (listed : Array Bool) (a : Act) (w : World), C w →
    wpAnyQIn F n P .any l.toArray C Q fuel listed a → wpAnyIn F n P .any l.toArray Q' fuel listed a w
  | 0, _, _, _, hw, h => ⟨h.1, hQ _ _ hw h.2⟩
  | fuel + 1, listed, _, w, hw, h => ⟨fun h0 => hQ _ _ hw (h.1 h0), fun i hi => by
      have hq := h.2 i hi
      have ih := fun a' w' hw' => any_of_quiet hl hQ fuel (listed.setIfInBounds i true) a' w' hw'
      unfold qOpIn at hq
      unfold wpOpIn
      split
      · rename_i ho; simp only [ho] at hq; exact ih _ _ hw hq
      · rename_i o ho
        simp only [ho] at hq
        obtain ⟨ha, hq⟩ := hq
        split
        · rename_i hwt; simp only [hwt, if_true] at hq; exact op_of_quiet (calm_sem hl ho _ _) hw ih ha hq
        · rename_i hwt; simp only [hwt] at hq; exact ⟨ha w hw, ih _ _ hw hq⟩⟩

/-- **The quiet law, wherever one stands.** -/
theorem region_quiet {id : Nat} {Q : Exit → Act → World → Prop} {a : Act} {w : World} {l : List Oper} (hl : calm l = true) (hm : P.follows .mixedOrders = true) (hB : Region.lexB .any l.toArray = true)
    (h : wpQuietIn F n P l.toArray (fun w' => ∃ n, w' = w.drewN n) (fun a' => ∀ w', (∃ n, w' = w.drewN n) → Q .normal a' w') l a) : (Code.region id l.toArray true).wpIn F n P Q a w := by
  simp only [Region.lexB, Bool.and_eq_true] at hB
  refine wpIn_region_any hm (any_of_quiet (Q := fun a' => ∀ w', (∃ n, w' = w.drewN n) → Q .normal a' w') (C := fun w' => ∃ n, w' = w.drewN n) hl (fun _ w' hw' h => h w' hw') _ _ _ _ ⟨1, rfl⟩ ?_)
  have := wpAnyQIn_lex (F := F) (n := n) (P := P) (C := fun w' => ∃ n, w' = w.drewN n) (md := .any) hB.1 l 0 (Array.replicate l.toArray.size false) a (by simp) (by simpa using hB.2) h
  simpa using this
end Go.Proofs.YbulkfzaDoor
