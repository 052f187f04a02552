/-
  Seat b0338aD: what the walks say of memory: a row of int64 that the call has made; slices.Insert of one zero and slices.Delete of a head, on such a row.
-/
import Derived.Test.YbulkfzaDoorInsert
import Derived.Test.YbulkfzaDoorShelf
import Derived.Lib.RowBridge
import Derived.Laws.LoneSync
import Derived.Below
namespace Go.Proofs.YbulkfzaDoor
open Go.Shelf Go.RowKit Go.Lib Go.Sort

/-- 's' is a slice of n int64: nil, or at the head of a block of the call's own (from B on), all of whose cells are int64 and none frozen. -/
def Row (B : Nat) (w : World) (s : Value) (n : Nat) : Prop :=
  (s = .slice none 0 0 ∧ n = 0) ∨
  ∃ b c, s = .slice (some ⟨b, 0, none⟩) n c ∧ B ≤ b ∧ 0 < c ∧ n ≤ c ∧ c ≤ 9223372036854775807 ∧ (∀ j, j < c → ∃ z : Int, w.cell? ⟨b, j, none⟩ = some (.int .i64 z)) ∧ (∀ j, w.frozen? ⟨b, j, none⟩ = false)

/-- Block q reads as it did. -/
def Kept (w w' : World) (q : Nat) : Prop := ∀ o, w'.cell? ⟨q, o, none⟩ = w.cell? ⟨q, o, none⟩ ∧ w'.frozen? ⟨q, o, none⟩ = w.frozen? ⟨q, o, none⟩

/-- Block q is not the row's. -/
def Off (s : Value) (q : Nat) : Prop := ∀ a n c, s = .slice (some a) n c → a.block ≠ q

theorem Kept.refl (w : World) (q : Nat) : Kept w w q := fun _ => ⟨rfl, rfl⟩
theorem Kept.trans {a b c : World} {q : Nat} (h : Kept a b q) (k : Kept b c q) : Kept a c q := fun o => ⟨(k o).1.trans (h o).1, (k o).2.trans (h o).2⟩

theorem kept_alloc (w : World) (o : Obj) (q : Nat) (h : q < w.heap.size) : Kept w (w.alloc o) q := fun j =>
  ⟨World.cell?_of_block (w := w) (a := ⟨q, j, none⟩) (Below.heap_alloc w o q h), World.frozen?_of_block (w := w) (a := ⟨q, j, none⟩) (Below.heap_alloc w o q h)⟩

theorem kept_setCells (w : World) (b o : Nat) (vs : List Value) (q : Nat) (h : q ≠ b) : Kept w (w.setCells b o vs) q := fun _ =>
  ⟨World.cell?_setCells_out b vs o w _ (fun e _ => absurd e h), World.frozen?_setCells b vs o w _⟩

theorem below_cells {B b : Nat} {a : World} (hb : B ≤ b) : ∀ (vs : List Value) (o : Nat) (w : World), Below B a w → Below B a (w.setCells b o vs)
  | [], _, _, h => h
  | v :: r, o, _, h => below_cells hb r (o + 1) _ (h.setCell (p := ⟨b, o, none⟩) hb v)

theorem size_cells (b : Nat) : ∀ (vs : List Value) (o : Nat) (w : World), (w.setCells b o vs).heap.size = w.heap.size
  | [], _, _ => rfl
  | v :: r, o, w => by rw [World.setCells, size_cells b r]; simp [World.setCell]

theorem ints_cells (w : World) (b o c : Nat) (vs : List Value) (hv : ∀ v ∈ vs, ∃ z : Int, v = .int .i64 z) (h : ∀ j, j < c → ∃ z : Int, w.cell? ⟨b, j, none⟩ = some (.int .i64 z)) (hin : o + vs.length ≤ c) :
    ∀ j, j < c → ∃ z : Int, (w.setCells b o vs).cell? ⟨b, j, none⟩ = some (.int .i64 z) := by
  intro j hj
  by_cases hr : o ≤ j ∧ j < o + vs.length
  · have := World.cell?_setCells_in b vs o w (fun k hk => by obtain ⟨z, hz⟩ := h (o + k) (by omega); rw [hz]; rfl) (j - o) (by omega)
    rw [show o + (j - o) = j by omega] at this
    obtain ⟨z, hz⟩ := hv _ (List.getElem_mem (by omega : j - o < vs.length))
    exact ⟨z, by rw [this, hz]⟩
  · rw [World.cell?_setCells_out b vs o w ⟨b, j, none⟩ (fun _ _ => by show j < o ∨ o + vs.length ≤ j; omega)]
    exact h j hj

/-- A row read in another world in which its block reads as it did. -/
theorem Row.kept {B : Nat} {w w' : World} {s : Value} {n : Nat} (h : Row B w s n) (hk : ∀ q, ¬ Off s q → Kept w w' q) : Row B w' s n := by
  rcases h with ⟨rfl, rfl⟩ | ⟨b, c, rfl, h1, h2, h3, h4, h5, h6⟩
  · exact .inl ⟨rfl, rfl⟩
  · have k := hk b (fun h => h _ _ _ rfl rfl)
    exact .inr ⟨b, c, rfl, h1, h2, h3, h4, fun j hj => by rw [(k j).1]; exact h5 j hj, fun j => by rw [(k j).2]; exact h6 j⟩

theorem oneCell_int (v : Value) (h : ∃ z : Int, v = .int .i64 z) : v.oneCell' = true := by obtain ⟨z, rfl⟩ := h; rfl

/-- The first n cells of such a row, as values. -/
theorem row_values {w : World} {b c n : Nat} (hn : n ≤ c) (h : ∀ j, j < c → ∃ z : Int, w.cell? ⟨b, j, none⟩ = some (.int .i64 z)) :
    ∃ zs : List Int, zs.length = n ∧ ∀ j, j < n → w.cell? ⟨b, j, none⟩ = some (.int .i64 (zs.getD j 0)) := by
  induction n with
  | zero => exact ⟨[], rfl, fun j hj => by omega⟩
  | succ n ih =>
    obtain ⟨zs, hl, hz⟩ := ih (by omega)
    obtain ⟨z, h1⟩ := h n (by omega)
    refine ⟨zs ++ [z], by simp [hl], fun j hj => ?_⟩
    by_cases hjn : j < n
    · rw [hz j hjn]; simp [List.getElem?_append, hl, hjn]
    · obtain rfl : j = n := by omega
      rw [h1]; simp [← hl]

theorem grown_ints (zs : List Value) (hz : ∀ v ∈ zs, ∃ z : Int, v = .int .i64 z) (k : Nat) : ∀ v ∈ (zs.toArray ++ Builtin.zeroCells (Value.int .i64 0).cells k), ∃ z : Int, v = .int .i64 z := by
  intro v hv
  simp [Builtin.zeroCells, Value.cells] at hv
  rcases hv with h | h
  · exact hz v h
  · obtain ⟨j, _, h2⟩ := h
    rw [Nat.mod_one] at h2
    exact ⟨0, h2.symm⟩

/-- A new row of int64. -/
theorem row_new {B n : Nat} (w W : World) (cells : Array Value) (hb : B ≤ w.heap.size) (hc0 : 0 < cells.size) (hn : n ≤ cells.size) (hm : cells.size ≤ 9223372036854775807) (hz : ∀ v ∈ cells, ∃ z : Int, v = .int .i64 z)
    (hW : W.heap = w.heap.push (.cells cells 2)) : Row B W (.slice (some ⟨w.heap.size, 0, none⟩) n cells.size) n := by
  have hh : W.heap[w.heap.size]? = some (.cells cells 2) := by rw [hW]; simp
  refine .inr ⟨w.heap.size, cells.size, rfl, hb, hc0, hn, hm, fun j hj => ?_, fun j => ?_⟩
  · obtain ⟨z, hz'⟩ := hz cells[j] (Array.getElem_mem hj)
    exact ⟨z, by simp [World.cell?, hh, hj, hz']⟩
  · simp [World.frozen?, hh]

theorem addr0 (b j : Nat) : (⟨b, 0, none⟩ : Addr).add j = ⟨b, j, none⟩ := by rw [Addr.add_lit, Nat.zero_add]

/-- slices.Insert(s, i, 0): THE ROW IS ONE LONGER; what lies elsewhere is as it was. -/
theorem insert_row (B : Nat) (w : World) (s : Value) (n i : Nat) (hR : Row B w s n) (hi : i ≤ n) (hn : n ≤ 64) (hB : B ≤ w.heap.size) :
    Calls Ybad.prog 14 #[s, .int .i64 i, .slice (some ⟨w.heap.size, 0, none⟩) 1 1] (w.alloc (.cells #[.int .i64 0] 2)) fun e w' =>
      ∃ s', e = .returned s' ∧ Row B w' s' (n + 1) ∧ Below B w w' ∧ ∀ q, q < w.heap.size → Off s q → Kept w w' q := by
  have hvs : ∀ j v, ([.int .i64 0] : List Value)[j]? = some v → (w.alloc (.cells #[.int .i64 0] 2)).cell? ⟨w.heap.size, 0 + j, none⟩ = some v := by
    intro j v hj
    match j with
    | 0 => simp at hj; subst hj; simp
    | j + 1 => simp at hj
  have h1v : ∀ v ∈ ([.int .i64 0] : List Value), v.oneCell' = true := by intro v hv; simp at hv; subst hv; rfl
  have hbA : Below B w (w.alloc (.cells #[.int .i64 0] 2)) := (Below.refl B w).alloc hB _
  have hkA : ∀ q, q < w.heap.size → Kept w (w.alloc (.cells #[.int .i64 0] 2)) q := fun q hq => kept_alloc w _ q hq
  obtain ⟨W, hW⟩ : ∃ W, W = w.alloc (.cells #[.int .i64 0] 2) := ⟨_, rfl⟩
  have hWs : W.heap.size = w.heap.size + 1 := by rw [hW]; simp
  have hfv : ∀ j, W.frozen? ⟨w.heap.size, j, none⟩ = false := fun j => by rw [hW]; exact World.frozen?_alloc_at (w := w) _ _ w.heap.size j rfl
  rw [← hW] at hvs hbA hkA ⊢
  obtain ⟨tA, kA, hsh, _, _⟩ := World.shape?_of_cell? (hvs 0 _ rfl)
  have hzero : ∀ v ∈ ([.int .i64 0] : List Value), ∃ z : Int, v = .int .i64 z := by intro v hv; simp at hv; exact ⟨0, hv⟩
  rcases hR with ⟨rfl, rfl⟩ | ⟨b, c, rfl, hBb, hc0, hnc, hcm, hz, hf⟩
  · obtain rfl : i = 0 := by omega
    refine (insert_end_grow none 0 0 w.heap.size 0 1 1 [] [.int .i64 0] W (by omega) (by omega) (by omega) (by omega) rfl rfl (fun _ => rfl) (fun _ h => by cases h) hvs h1v).mono ?_
    rintro e w' ⟨rfl, rfl⟩
    have hG := grownCap_ge W (0 + 1) 0 2
    have hGm := grownCap_le_maxLen W (0 + 1) 0 2 (by unfold maxLen; omega)
    unfold maxLen at hGm
    generalize grownCap W (0 + 1) 0 2 = G at hG hGm
    refine ⟨_, rfl, ?_, ?_, ?_⟩
    · obtain ⟨cells, hcells⟩ : ∃ cells : Array Value, cells = ([] ++ [.int .i64 0] : List Value).toArray ++ Builtin.zeroCells (Value.int .i64 0).cells (G - (0 + 1)) := ⟨_, rfl⟩
      have hs : cells.size = G := by rw [hcells]; simp [Builtin.zeroCells, Value.cells]; omega
      have hI : ∀ v ∈ cells, ∃ z : Int, v = .int .i64 z := by rw [hcells]; exact grown_ints _ hzero _
      have := row_new (B := B) (n := 0 + 1) W (W.drew.alloc (.cells cells 2)) cells (by omega) (by omega) (by omega) (by omega) hI rfl
      rw [hs] at this
      rw [← hcells]
      exact this
    · exact hbA.trans ((Below.refl B W).drew.alloc (by show B ≤ W.heap.size; omega) _)
    · intro q hq _
      exact (hkA q hq).trans (kept_alloc W.drew _ q (by show q < W.heap.size; omega))
  · have hbw : b < w.heap.size := by
      obtain ⟨z, h0⟩ := hz 0 hc0
      exact block_lt_of_cell h0
    have hzW : ∀ j, j < c → ∃ z : Int, W.cell? ⟨b, j, none⟩ = some (.int .i64 z) := fun j hj => by rw [(hkA b hbw j).1]; exact hz j hj
    have hfW : ∀ j, W.frozen? ⟨b, j, none⟩ = false := fun j => by rw [(hkA b hbw j).2]; exact hf j
    obtain ⟨zs, hzl, hzs⟩ := row_values hnc hzW
    obtain ⟨cs, hcs0⟩ : ∃ cs, cs = zs.map (Value.int .i64) := ⟨_, rfl⟩
    have hcl : cs.length = n := by rw [hcs0]; simpa using hzl
    have hcsI : ∀ v ∈ cs, ∃ z : Int, v = .int .i64 z := by
      intro v hv
      rw [hcs0] at hv
      obtain ⟨z, _, rfl⟩ := List.mem_map.1 hv
      exact ⟨z, rfl⟩
    have hcs : ∀ j v, cs[j]? = some v → W.cell? ⟨b, 0 + j, none⟩ = some v := by
      intro j v hj
      have hjn : j < n := by rw [← hcl]; exact (List.getElem?_eq_some_iff.1 hj).1
      rw [Nat.zero_add, hzs j hjn]
      rw [hcs0, List.getElem?_map] at hj
      rw [List.getD_eq_getElem?_getD]
      cases hz' : zs[j]? with
      | none => rw [hz'] at hj; simp at hj
      | some z => rw [hz'] at hj; simpa using hj
    have h1c : ∀ v ∈ cs, v.oneCell' = true := fun v hv => oneCell_int v (hcsI v hv)
    have hdI : ∀ v ∈ cs.drop i, ∃ z : Int, v = .int .i64 z := fun v hv => hcsI v (List.mem_of_mem_drop hv)
    have htI : ∀ v ∈ cs.take i, ∃ z : Int, v = .int .i64 z := fun v hv => hcsI v (List.mem_of_mem_take hv)
    have hdl : (cs.drop i).length = n - i := by rw [List.length_drop, hcl]
    have hvb : w.heap.size ≠ b := by omega
    by_cases hroom : n + 1 ≤ c
    · by_cases hin : i < n
      · obtain ⟨tB, kB, hsb, hkB, _⟩ := World.shape?_of_cell? (hcs 0 _ (List.getElem?_eq_getElem (by omega)))
        refine (insert_shift b 0 n c i w.heap.size 0 1 1 cs [.int .i64 0] W hin (by omega) hroom hcm hvb hcl rfl hcs (fun j hj => by obtain ⟨z, h0⟩ := hzW (0 + j) (by omega); rw [h0]; rfl) (fun j _ => hfW _) hvs h1c h1v tA tB kA kB hsh hsb (by simp at hkB; omega) (hfv _) (hfv _)).mono ?_
        rintro e w' ⟨rfl, rfl⟩
        refine ⟨_, rfl, .inr ⟨b, c, rfl, hBb, hc0, hroom, hcm, ?_, ?_⟩, ?_, ?_⟩
        · exact ints_cells _ b _ c _ hzero (ints_cells W.drew b _ c _ hdI hzW (by rw [hdl]; omega)) (by simp; omega)
        · intro j
          rw [World.frozen?_setCells, World.frozen?_setCells]
          exact hfW j
        · exact below_cells hBb _ _ _ (below_cells hBb _ _ _ hbA.drew)
        · intro q hq ho
          have hqb : q ≠ b := fun e => ho _ _ _ rfl e.symm
          exact ((hkA q hq).trans (kept_setCells W.drew b _ _ q hqb)).trans (kept_setCells _ b _ _ q hqb)
      · obtain rfl : i = n := by omega
        refine (insert_end_room b 0 i c w.heap.size 0 1 1 [.int .i64 0] W (by omega) hroom hcm rfl (fun j hj => by obtain ⟨z, h0⟩ := hzW (0 + i + j) (by omega); rw [h0]; rfl) (fun j _ => hfW _) hvs h1v).mono ?_
        rintro e w' ⟨rfl, rfl⟩
        refine ⟨_, rfl, .inr ⟨b, c, rfl, hBb, hc0, hroom, hcm, ?_, ?_⟩, ?_, ?_⟩
        · exact ints_cells _ b _ c _ hzero hzW (by simp; omega)
        · intro j
          rw [World.frozen?_setCells]
          exact hfW j
        · exact below_cells hBb _ _ _ hbA
        · intro q hq ho
          have hqb : q ≠ b := fun e => ho _ _ _ rfl e.symm
          exact (hkA q hq).trans (kept_setCells W b _ _ q hqb)
    · have hG := grownCap_ge W (n + 1) c 2
      have hGm := grownCap_le_maxLen W (n + 1) c 2 (by unfold maxLen; omega)
      unfold maxLen at hGm
      by_cases hin : i < n
      · refine (insert_grow b 0 n c i w.heap.size 0 1 1 cs [.int .i64 0] W hin (by omega) hnc (by omega) (by omega) hcl rfl hcs hvs h1c h1v).mono ?_
        rintro e w' ⟨rfl, rfl⟩
        generalize grownCap W (n + 1) c 2 = G at hG hGm
        obtain ⟨cells, hcells⟩ : ∃ cells : Array Value, cells = (cs.take i).toArray ++ Builtin.zeroCells (Value.int .i64 0).cells (n + 1 - i) ++ Builtin.zeroCells (Value.int .i64 0).cells (G - (n + 1)) := ⟨_, rfl⟩
        rw [← hcells]
        have hs : cells.size = G := by rw [hcells]; simp [Builtin.zeroCells, Value.cells, hcl]; omega
        have hI : ∀ v ∈ cells, ∃ z : Int, v = .int .i64 z := by
          rw [hcells]
          have h1 := grown_ints (cs.take i) htI (n + 1 - i)
          have h2 := grown_ints ((cs.take i).toArray ++ Builtin.zeroCells (Value.int .i64 0).cells (n + 1 - i)).toList (fun v hv => h1 v (by simpa using hv)) (G - (n + 1))
          intro v hv
          exact h2 v (by simpa [or_assoc] using hv)
        have hrow := row_new (B := B) (n := n + 1) W (W.alloc (.cells cells 2)).drew cells (by omega) (by omega) (by omega) (by omega) hI rfl
        rw [hs] at hrow
        have hBW : B ≤ W.heap.size := by omega
        rcases hrow with ⟨h0, _⟩ | ⟨b2, c2, h0, g1, g2, g3, g4, g5, g6⟩
        · cases h0
        · cases h0
          refine ⟨_, rfl, .inr ⟨W.heap.size, G, rfl, g1, g2, g3, g4, ?_, ?_⟩, ?_, ?_⟩
          · exact ints_cells _ _ _ G _ hdI (ints_cells (W.alloc (.cells cells 2)).drew _ _ G _ hzero g5 (by simp; omega)) (by rw [hdl]; omega)
          · intro j
            rw [World.frozen?_setCells]
            exact (World.frozen?_setCells _ _ _ _ _).trans (g6 j)
          · exact below_cells hBW _ _ _ (below_cells hBW _ _ _ (hbA.alloc hBW _).drew).drew
          · intro q hq ho
            have hqb : q ≠ W.heap.size := by omega
            have h1 : Kept w (W.alloc (.cells cells 2)).drew q := (hkA q hq).trans (kept_alloc W _ q (by omega))
            have h2 := h1.trans (kept_setCells (W.alloc (.cells cells 2)).drew W.heap.size i [.int .i64 0] q hqb)
            exact Kept.trans (b := ((W.alloc (.cells cells 2)).drew.setCells W.heap.size i [.int .i64 0]).drew) h2 (kept_setCells _ W.heap.size _ _ q hqb)
      · obtain rfl : i = n := by omega
        refine (insert_end_grow (some ⟨b, 0, none⟩) i c w.heap.size 0 1 1 cs [.int .i64 0] W (by omega) hnc (by omega) (by omega) hcl rfl (fun h => by cases h) (fun a ha j v hj => by cases ha; rw [Addr.add_lit]; exact hcs j v hj) hvs h1v).mono ?_
        rintro e w' ⟨rfl, rfl⟩
        generalize grownCap W (i + 1) c 2 = G at hG hGm
        refine ⟨_, rfl, ?_, ?_, ?_⟩
        · obtain ⟨cells, hcells⟩ : ∃ cells : Array Value, cells = (cs ++ [.int .i64 0] : List Value).toArray ++ Builtin.zeroCells (Value.int .i64 0).cells (G - (i + 1)) := ⟨_, rfl⟩
          have hs : cells.size = G := by rw [hcells]; simp [Builtin.zeroCells, Value.cells, hcl]; omega
          have hI : ∀ v ∈ cells, ∃ z : Int, v = .int .i64 z := by
            rw [hcells]
            exact grown_ints _ (fun v hv => by rcases List.mem_append.1 hv with h | h; exact hcsI v h; exact hzero v h) _
          have := row_new (B := B) (n := i + 1) W (W.drew.alloc (.cells cells 2)) cells (by omega) (by omega) (by omega) (by omega) hI rfl
          rw [hs] at this
          rw [← hcells]
          exact this
        · exact hbA.trans ((Below.refl B W).drew.alloc (by show B ≤ W.heap.size; omega) _)
        · intro q hq _
          exact (hkA q hq).trans (kept_alloc W.drew _ q (by show q < W.heap.size; omega))

set_option maxHeartbeats 400000 in
theorem delete_nil (w : World) : Calls Ybad.prog 15 #[.slice none 0 0, .int .i64 0, .int .i64 0] w fun e w' => e = .returned (.slice none 0 0) ∧ w' = w := by
  go_enter Ybad.func15, Ybad.ntmps15
  go_wp2
  go_ret
  exact ⟨rfl, rfl⟩

theorem ahead_drewN (w : World) (q : Nat) : Sort.ahead w q = w.drewN q := rfl

/-- slices.Delete(s, 0, k): THE ROW IS k SHORTER; what lies elsewhere is as it was. -/
theorem delete_row (B : Nat) (w : World) (s : Value) (n k : Nat) (hR : Row B w s n) (hk : k ≤ n) :
    Calls Ybad.prog 15 #[s, .int .i64 0, .int .i64 k] w fun e w' =>
      ∃ s', e = .returned s' ∧ Row B w' s' (n - k) ∧ Below B w w' ∧ ∀ q, Off s q → Kept w w' q := by
  rcases hR with ⟨rfl, rfl⟩ | ⟨b, c, rfl, hBb, hc0, hnc, hcm, hz, hf⟩
  · obtain rfl : k = 0 := by omega
    refine (delete_nil w).mono ?_
    rintro e w' ⟨rfl, rfl⟩
    exact ⟨_, rfl, .inl ⟨rfl, rfl⟩, Below.refl _ _, fun q _ => Kept.refl _ q⟩
  · obtain ⟨zs, hzl, hzs⟩ := row_values hnc hz
    obtain ⟨i0, hi0, h0, h1, h2⟩ := info_parts info2
    have hH : Holds (Value.int .i64) w b 0 zs.toArray := by
      intro j hj
      have hj' : j < n := by simpa [hzl] using hj
      rw [Nat.zero_add, hzs j hj', getElem!_pos zs.toArray j hj]
      refine ⟨?_, hf j⟩
      simp [List.getElem?_eq_getElem (show j < zs.length by omega)]
    have hd : zs.toArray.size = n := by simpa using hzl
    have hc := Ybad.slices_Delete (Value.int .i64) (fun _ => rfl) 0 Ybad.zeroValue2 i0 hi0 h1 b 0 c 0 k zs.toArray w hH (by rw [hd]; exact hnc) hcm (by omega) (by rw [hd]; exact hk)
    rw [hd] at hc
    refine hc.mono ?_
    rintro e w' ⟨rfl, q, rfl⟩
    have hl : (zs.toArray.toList.take 0 ++ zs.toArray.toList.drop k ++ List.replicate (k - 0) (0 : Int)).length = zs.toArray.size := by simp; omega
    rw [putRow_eq_setCells (Value.int .i64) w b 0 zs.toArray _ q hH hl]
    have hq : ∀ x : Addr, (w.drewN q).cell? x = w.cell? x := fun x => by rw [← ahead_drewN]; rfl
    have hqf : ∀ x : Addr, (w.drewN q).frozen? x = w.frozen? x := fun x => by rw [← ahead_drewN]; rfl
    have hqb : Below B w (w.drewN q) := by rw [← ahead_drewN]; exact ⟨rfl, rfl, rfl, Nat.le_refl _, fun _ _ => rfl⟩
    refine ⟨_, rfl, .inr ⟨b, c, rfl, hBb, hc0, by omega, hcm, ?_, ?_⟩, below_cells hBb _ _ _ hqb, ?_⟩
    · exact ints_cells _ b 0 c _ (fun v hv => by obtain ⟨z, _, rfl⟩ := List.mem_map.1 hv; exact ⟨z, rfl⟩) (fun j hj => by rw [hq]; exact hz j hj) (by rw [List.length_map, hl, hd]; omega)
    · intro j
      rw [World.frozen?_setCells, hqf]
      exact hf j
    · intro p ho
      have hpb : p ≠ b := fun e => ho _ _ _ rfl e.symm
      have h1 : Kept w (w.drewN q) p := fun o => ⟨hq _, hqf _⟩
      exact h1.trans (kept_setCells _ b _ _ p hpb)
end Go.Proofs.YbulkfzaDoor
