/-
  Seat b0348a: rows of completions (three cells each), plain; 'copy' onto a whole row of such.
-/
import Derived.Test.YbulkgekPush
namespace Go.Proofs.Ybulkgek
open Go.RowKit Go.Lib

/-- A completion: at, terminal, run. -/
abbrev C3 := Int × Int × Int

/-- The cells of a row of completions. -/
def flat : List C3 → List Value
  | [] => []
  | c :: cs => cellsOf3 c.1 c.2.1 c.2.2 ++ flat cs

theorem length_flat (cs : List C3) : (flat cs).length = cs.length * 3 := by
  induction cs with
  | nil => rfl
  | cons c cs ih => simp [flat, ih]; omega

theorem flat_append (a b : List C3) : flat (a ++ b) = flat a ++ flat b := by
  induction a with
  | nil => rfl
  | cons c cs ih => simp [flat, ih]

theorem flat_one (c : C3) : flat [c] = cellsOf3 c.1 c.2.1 c.2.2 := rfl

theorem flat_get (cs : List C3) : ∀ (k : Nat) (h : k < cs.length), (flat cs)[k * 3]? = some (.int .i64 cs[k].1) ∧ (flat cs)[k * 3 + 1]? = some (.int .i64 cs[k].2.1) ∧ (flat cs)[k * 3 + 2]? = some (.int .u64 cs[k].2.2) := by
  induction cs with
  | nil => intro k h; simp at h
  | cons c cs ih =>
    intro k h
    cases k with
    | zero => simp [flat]
    | succ k =>
      have h2 := ih k (by simpa using h)
      have e : (k + 1) * 3 = k * 3 + 3 := by omega
      have e0 : k * 3 + 3 + 1 = (k * 3 + 1) + 3 := by omega
      have e1 : k * 3 + 3 + 2 = (k * 3 + 2) + 3 := by omega
      rw [e, e0, e1]
      simpa [flat] using h2

theorem flat_set (cs : List C3) : ∀ (k : Nat) (c : C3), (((flat cs).set (k * 3) (.int .i64 c.1)).set (k * 3 + 1) (.int .i64 c.2.1)).set (k * 3 + 2) (.int .u64 c.2.2) = flat (cs.set k c) := by
  induction cs with
  | nil => intro k c; simp [flat]
  | cons d cs ih =>
    intro k c
    cases k with
    | zero => simp [flat]
    | succ k =>
      have e : (k + 1) * 3 = k * 3 + 3 := by omega
      have e0 : k * 3 + 3 + 1 = (k * 3 + 1) + 3 := by omega
      have e1 : k * 3 + 3 + 2 = (k * 3 + 2) + 3 := by omega
      rw [e, e0, e1]
      have := ih k c
      simpa [flat] using this

theorem flat_one_cell (cs : List C3) : ∀ v ∈ flat cs, v.oneCell' = true := by
  induction cs with
  | nil => intro v h; simp [flat] at h
  | cons c cs ih =>
    intro v h
    simp only [flat, List.mem_append] at h
    rcases h with h | h
    · revert v; simp [Value.oneCell']
    · exact ih v h

theorem swap_perm (cs : List C3) (i j : Nat) (hi : i < cs.length) (hj : j < cs.length) : ((cs.set i cs[j]).set j cs[i]).Perm cs := List.set_set_perm hi hj

/-- 'copy' of a whole row onto a whole row of the same length. -/
theorem run_copy_full {P : Program} (w : World) (dT sT ty e : TypeId) (B size g cap n scap : Nat) (ad : Addr) (ys xs : List Value) (hu : P.underlying dT = some (.slice e)) (hs : (P.info? e).map (·.size) = some size)
    (hrow : w.ownsRow B e size (.slice (some ⟨g, 0, none⟩) n cap) n ys) (hl : xs.length = n * size) (hsrc : ∀ j v, xs[j]? = some v → w.cell? (ad.add j) = some v) (h1 : ∀ v ∈ xs, v.oneCell' = true) :
    ∃ w', (Builtin.copy_ #[dT, sT] ty #[.slice (some ⟨g, 0, none⟩) n cap, .slice (some ad) n scap]).run P w = .ok (goInt n) w' ∧ w'.ownsRow B e size (.slice (some ⟨g, 0, none⟩) n cap) n xs ∧ w.grownBy w' (some g) := by
  rcases hrow.2 with ⟨h', _⟩ | ⟨g', cap', cur, h', hb, hg, hnc, hcm, hcs, htake⟩
  · simp at h'
  simp only [Value.slice.injEq, Option.some.injEq, Addr.mk.injEq, and_true, true_and] at h'
  obtain ⟨rfl, rfl⟩ := h'
  have hle : n * size ≤ cap * size := Nat.mul_le_mul_right _ hnc
  have hll := run_loadCells_list (P := P) w ad xs hsrc
  have hst := run_storeCells_at P g 0 e xs 0 cur w hg (by simp; omega) h1
  cases hq : P.info? e with
  | none => simp [hq] at hs
  | some i =>
    have hi : i.size = size := by simpa [hq] using hs
    refine ⟨_, by simp [Builtin.copy_, run_underlying hu, Builtin.lenOf, Builtin.firstCells, sizeOf, typeInfo, hq, hi, ← hl, hll, hst]; rfl, ?_, ?_⟩
    · refine ⟨hl, .inr ⟨g, cap, _, rfl, hb, setRow_heap w g _ _ e _ hg, hnc, hcm, ?_, ?_⟩⟩
      · simp; omega
      · rw [← hl]; simp
    · exact ⟨rfl, rfl, rfl, by simp [World.setRow], fun k hk hne => setRow_other w g k _ (fun h => hne (by simp [h]))⟩

theorem wpList_copy_full {P : Program} {w : World} {ops : Array Oper} {rest : List Oper} {o : Oper} {a : Act} {Q : Exit → Act → World → Prop} (hgd : o.guard = none) (d s : Operand) (dT sT : TypeId)
    (ho : o.op = .call { callee := .builtin .copy, args := #[d, s], argTypes := #[dT, sT] }) (e : TypeId) (B size g cap n scap : Nat) (ad : Addr) (ys xs : List Value) (hu : P.underlying dT = some (.slice e)) (hs : (P.info? e).map (·.size) = some size)
    (hd : a.eval d = .slice (some ⟨g, 0, none⟩) n cap) (hsv : a.eval s = .slice (some ad) n scap)
    (hrow : w.ownsRow B e size (.slice (some ⟨g, 0, none⟩) n cap) n ys) (hl : xs.length = n * size) (hsrc : ∀ j v, xs[j]? = some v → w.cell? (ad.add j) = some v) (h1 : ∀ v ∈ xs, v.oneCell' = true)
    (h : ∀ w', w'.ownsRow B e size (.slice (some ⟨g, 0, none⟩) n cap) n xs → w.grownBy w' (some g) → wpList P ops Q rest (a.put o.dst (goInt n)) w') : wpList P ops Q (o :: rest) a w := by
  obtain ⟨w', hrun, hr, hg⟩ := run_copy_full (P := P) w dT sT o.type e B size g cap n scap ad ys xs hu hs hrow hl hsrc h1
  refine wpList_plain hgd fun K hK => ?_
  unfold Oper.wp
  simp [execOp, ho, resolve, invoke, builtin, hd, hsv, hrun, Result.andThen]
  exact hK _ _ (h w' hr hg)

/-- What the counts say. -/
theorem count_law (old cs : List C3) (c x : C3) (h : cs.Perm (old ++ [c])) : cs.count x = old.count x + (if x = c then 1 else 0) := by
  rw [h.count_eq, List.count_append]
  congr 1
  by_cases e : x = c
  · subst e; simp
  · rw [if_neg e, List.count_eq_zero]; simpa using e
end Go.Proofs.Ybulkgek
