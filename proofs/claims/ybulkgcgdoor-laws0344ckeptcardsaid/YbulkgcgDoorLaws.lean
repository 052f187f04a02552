/-
  Seat b0344aD: atLine by its contracts; the two laws, walked.
-/
import Derived.Test.YbulkgcgDoorAs2
namespace Go.Proofs.YbulkgcgDoor
open Go.RowKit Go.Extern.Stop Go.Stop Go.Extern

/-- What errors.errorType holds. -/
abbrev Reg (w : World) : Prop := w.cell? ⟨0, 0, none⟩ = some (.iface 54 (.agg #[.pointer (some ⟨1, 26, none⟩)]))

theorem methodError22 (h : Value) (w : World) : (Go.method 196 22 h "Error").run Ybad.prog w = .ok (31, h) w := by kernel_rfl

theorem reg_alloc {w : World} (o : Obj) (h : Reg w) : Reg (w.alloc o) := by
  show (w.alloc o).cell? _ = _
  rw [World.cell?_alloc_lt _ _ ⟨0, 0, none⟩ (block_lt_of_cell h)]; exact h

theorem error22 (b : Nat) (s : ByteArray) (n : Int) (w : World) (hn : 0 ≤ n ∧ n < 1000) (c0 : w.cell? ⟨b, 0, none⟩ = some (.string s)) (c1 : w.cell? ⟨b, 1, none⟩ = some (.int .i64 n)) (f1 : w.frozen? ⟨b, 1, none⟩ = false) :
    Calls Ybad.prog 31 #[.pointer (some ⟨b, 0, none⟩)] w fun e w' => e = .returned (.string s) ∧ w' = w.setCell ⟨b, 1, none⟩ (.int .i64 (n + 1)) := by
  obtain ⟨h1, h2⟩ := hn
  go_enter Ybad.func31, Ybad.ntmps31
  go_wp2
  go_ret
  exact ⟨rfl, rfl⟩

theorem atLine_nil (line : Int) (w : World) :
    Calls Ybad.prog 5 #[.nilIface, .int .i64 line] w fun e w' => e = .returned .nilIface ∧ w' = w.alloc (.cells #[.pointer none] 28) := by
  go_enter Ybad.func5, Ybad.ntmps5
  go_wp2
  go_ret
  exact ⟨rfl, rfl⟩

theorem lt_of_reg {w : World} (h : Reg w) : 0 < w.heap.size := block_lt_of_cell h

/-- atLine of a plain error: Error is called once; a fresh runtimeError. -/
theorem atLine_plain (b : Nat) (s : ByteArray) (line : Int) (w : World) (hg : Reg w) (c0 : w.cell? ⟨b, 0, none⟩ = some (.string s)) (c1 : w.cell? ⟨b, 1, none⟩ = some (.int .i64 0)) (f1 : w.frozen? ⟨b, 1, none⟩ = false) :
    Calls Ybad.prog 5 #[.iface 22 (.pointer (some ⟨b, 0, none⟩)), .int .i64 line] w fun e w' => ∃ w2 : World, Below w.heap.size w w2 ∧ e = .returned (.iface 28 (.pointer (some ⟨w2.heap.size, 0, none⟩))) ∧
      w' = (w2.setCell ⟨b, 1, none⟩ (.int .i64 1)).alloc (.cells #[.int .i64 line, .string s, .bool false] 31) := by
  have hb : b < w.heap.size := block_lt_of_cell c0
  have mE := methodError22
  have hA := as_plain ⟨b, 0, none⟩ ⟨w.heap.size, 0, none⟩ (w.alloc (.cells #[.pointer none] 28)) (reg_alloc _ hg)
  obtain ⟨w2, hw2⟩ : ∃ w2, w2 = ((((w.alloc (.cells #[.pointer none] 28)).alloc (.cells #[.pointer (some ⟨w.heap.size, 0, none⟩)] 38)).alloc (.cells #[.pointer (some ⟨1, 38, none⟩), .pointer (some ⟨(w.alloc (.cells #[.pointer none] 28)).heap.size, 0, none⟩), .int .u64 150] 43)).alloc (.cells #[.pointer (some ⟨1, 38, none⟩), .pointer (some ⟨(w.alloc (.cells #[.pointer none] 28)).heap.size, 0, none⟩), .int .u64 150] 43)) := ⟨_, rfl⟩
  rw [← hw2] at hA
  have hbel : Below w.heap.size w w2 := by
    rw [hw2]
    exact ((((Below.refl _ w).alloc (Nat.le_refl _) _).alloc (by simp) _).alloc (by simp; omega) _).alloc (by simp; omega) _
  have d0 := (hbel.cell (p := ⟨b, 0, none⟩) hb).trans c0
  have d1 := (hbel.cell (p := ⟨b, 1, none⟩) hb).trans c1
  have g1 := (hbel.frozen (p := ⟨b, 1, none⟩) hb).trans f1
  clear hw2
  go_enter Ybad.func5, Ybad.ntmps5
  go_wp2_with (first | (go_at_call 6; refine hA.mono ?_; rintro e w' ⟨rfl, rfl⟩) | (go_at_call 31; refine (error22 b s 0 _ (by decide) d0 d1 g1).mono ?_; rintro e w' ⟨rfl, rfl⟩))
  go_ret
  exact ⟨_, hbel, rfl, rfl⟩

theorem atLine_self (e : Addr) (line : Int) (w : World) (hg : Reg w) :
    Calls Ybad.prog 5 #[.iface 28 (.pointer (some e)), .int .i64 line] w fun ev w' => ev = .returned (.iface 28 (.pointer (some e))) ∧ Below w.heap.size w w' := by
  have hA := as_hit e ⟨w.heap.size, 0, none⟩ (.pointer none) (w.alloc (.cells #[.pointer none] 28)) (reg_alloc _ hg) (by simp) (by simp)
  obtain ⟨w2, hw2⟩ : ∃ w2, w2 = (((((w.alloc (.cells #[.pointer none] 28)).alloc (.cells #[.pointer (some ⟨w.heap.size, 0, none⟩)] 38)).alloc (.cells #[.pointer (some ⟨1, 38, none⟩), .pointer (some ⟨(w.alloc (.cells #[.pointer none] 28)).heap.size, 0, none⟩), .int .u64 150] 43)).alloc (.cells #[.pointer (some ⟨1, 38, none⟩), .pointer (some ⟨(w.alloc (.cells #[.pointer none] 28)).heap.size, 0, none⟩), .int .u64 150] 43)).alloc (.cells #[.pointer (some e)] 28)).setCell ⟨w.heap.size, 0, none⟩ (.pointer (some e)) := ⟨_, rfl⟩
  rw [← hw2] at hA
  have hbel : Below w.heap.size w w2 := by
    rw [hw2]
    exact ((((((Below.refl _ w).alloc (Nat.le_refl _) _).alloc (by simp) _).alloc (by simp; omega) _).alloc (by simp; omega) _).alloc (by simp; omega) _).setCell (p := ⟨w.heap.size, 0, none⟩) (Nat.le_refl _) _
  clear hw2
  go_enter Ybad.func5, Ybad.ntmps5
  go_wp2_with (go_at_call 6; refine hA.mono ?_; rintro e w' ⟨rfl, rfl⟩)
  go_ret
  exact ⟨rfl, hbel⟩

theorem atLine_wrap (b : Nat) (e : Addr) (line : Int) (w : World) (hg : Reg w) (hb : w.cell? ⟨b, 0, none⟩ = some (.iface 28 (.pointer (some e)))) :
    Calls Ybad.prog 5 #[.iface 33 (.pointer (some ⟨b, 0, none⟩)), .int .i64 line] w fun ev w' => ev = .returned (.iface 33 (.pointer (some ⟨b, 0, none⟩))) ∧ Below w.heap.size w w' := by
  have hA := as_wrap b e ⟨w.heap.size, 0, none⟩ (.pointer none) (w.alloc (.cells #[.pointer none] 28)) (reg_alloc _ hg) (by rw [World.cell?_alloc_lt _ _ ⟨b, 0, none⟩ (block_lt_of_cell hb)]; exact hb) (by simp) (by simp)
  obtain ⟨w2, hw2⟩ : ∃ w2, w2 = (((((w.alloc (.cells #[.pointer none] 28)).alloc (.cells #[.pointer (some ⟨w.heap.size, 0, none⟩)] 38)).alloc (.cells #[.pointer (some ⟨1, 38, none⟩), .pointer (some ⟨(w.alloc (.cells #[.pointer none] 28)).heap.size, 0, none⟩), .int .u64 150] 43)).alloc (.cells #[.pointer (some ⟨1, 38, none⟩), .pointer (some ⟨(w.alloc (.cells #[.pointer none] 28)).heap.size, 0, none⟩), .int .u64 150] 43)).alloc (.cells #[.pointer (some e)] 28)).setCell ⟨w.heap.size, 0, none⟩ (.pointer (some e)) := ⟨_, rfl⟩
  rw [← hw2] at hA
  have hbel : Below w.heap.size w w2 := by
    rw [hw2]
    exact ((((((Below.refl _ w).alloc (Nat.le_refl _) _).alloc (by simp) _).alloc (by simp; omega) _).alloc (by simp; omega) _).alloc (by simp; omega) _).setCell (p := ⟨w.heap.size, 0, none⟩) (Nat.le_refl _) _
  clear hw2
  go_enter Ybad.func5, Ybad.ntmps5
  go_wp2_with (go_at_call 6; refine hA.mono ?_; rintro e w' ⟨rfl, rfl⟩)
  go_ret
  exact ⟨rfl, hbel⟩

theorem assert28 (v : Value) (w : World) : (Instr.typeAssert (.iface 28 v) 26 28 true).run Ybad.prog w = .ok (.tuple #[v, .bool true]) w := by kernel_rfl

theorem fresh_world (s : ByteArray) (line : Int) (w w2 W3 : World) (hbel : Below (w.alloc (.cells #[.string s, .int .i64 0] 24)).heap.size (w.alloc (.cells #[.string s, .int .i64 0] 24)) w2)
    (hW : W3 = (w2.setCell ⟨w.heap.size, 1, none⟩ (.int .i64 1)).alloc (.cells #[.int .i64 line, .string s, .bool false] 31)) :
    W3.cell? ⟨w2.heap.size, 0, none⟩ = some (.int .i64 line) ∧ W3.cell? ⟨w2.heap.size, 1, none⟩ = some (.string s) ∧ W3.cell? ⟨w2.heap.size, 2, none⟩ = some (.bool false) ∧ W3.cell? ⟨w.heap.size, 1, none⟩ = some (.int .i64 1) ∧ Below w.heap.size w W3 := by
  have hsz : (w.alloc (.cells #[.string s, .int .i64 0] 24)).heap.size = w.heap.size + 1 := by simp
  have hs2 := hbel.size
  have hc1 : w2.cell? ⟨w.heap.size, 1, none⟩ = some (.int .i64 0) := (hbel.cell (p := ⟨w.heap.size, 1, none⟩) (by rw [hsz]; exact Nat.lt_succ_self _)).trans (by simp)
  have hb0 : Below w.heap.size w (w.alloc (.cells #[.string s, .int .i64 0] 24)) := (Below.refl _ w).alloc (Nat.le_refl _) _
  have hz : (w2.setCell ⟨w.heap.size, 1, none⟩ (.int .i64 1)).heap.size = w2.heap.size := by simp
  subst hW
  refine ⟨?_, ?_, ?_, ?_, ?_⟩
  · rw [World.cell?_alloc_at _ _ _ _ (by simp)]; rfl
  · rw [World.cell?_alloc_at _ _ _ _ (by simp)]; rfl
  · rw [World.cell?_alloc_at _ _ _ _ (by simp)]; rfl
  · rw [World.cell?_alloc_lt _ _ ⟨w.heap.size, 1, none⟩ (by rw [hz]; show w.heap.size < _; omega)]
    exact World.cell?_setCell_same' _ _ _ (by rw [hc1]; rfl)
  · have hb1 : Below w.heap.size w w2 := hb0.trans (hbel.mono (by rw [hsz]; omega))
    exact (hb1.setCell (p := ⟨w.heap.size, 1, none⟩) (Nat.le_refl _) _).alloc (by rw [hz]; omega) _

theorem law_fresh (s : ByteArray) (line : Int) (w : World) (hg : Reg w) :
    Calls Ybad.prog 3 #[.string s, .int .i64 line] w fun e w' => e = .returned (.bool true) ∧ Below w.heap.size w w' := by
  have hA := atLine_plain w.heap.size s line (w.alloc (.cells #[.string s, .int .i64 0] 24)) (reg_alloc _ hg) (by simp) (by simp) (by simp)
  have a28 := assert28
  go_enter Ybad.func3, Ybad.ntmps3
  go_wp2_with (go_at_call 5; refine hA.mono ?_; rintro e w' ⟨w2, hbel, rfl, hw3⟩; obtain ⟨q0, q1, q2, q3, hbw⟩ := fresh_world s line w w2 w' hbel hw3; clear hw3 hbel hA)
  go_ret
  exact ⟨rfl, hbw⟩

theorem cmp28 : (Ybad.prog.info? 28).map (·.comparable) = some true := by kernel_rfl
theorem cmp33 : (Ybad.prog.info? 33).map (·.comparable) = some true := by kernel_rfl
theorem has31 : (Ybad.prog.info? 31).map (·.size) = some 3 := by kernel_rfl
theorem has35 : (Ybad.prog.info? 35).map (·.size) = some 1 := by kernel_rfl

theorem eq28 (a : Addr) (w : World) : (binOp .eql 26 (.iface 28 (.pointer (some a))) (.iface 28 (.pointer (some a)))).run Ybad.prog w = .ok (.bool true) w := by
  obtain ⟨i, hi, hi1⟩ := Option.map_eq_some_iff.1 cmp28
  obtain ⟨j, hj, -⟩ := Option.map_eq_some_iff.1 has31
  exact run_eql_iface_ptr_same w a Ybad.underlying26 Ybad.underlying28 hi hi1 hj
theorem ne28 (a : Addr) (w : World) : (binOp .neq 26 (.iface 28 (.pointer (some a))) (.iface 28 (.pointer (some a)))).run Ybad.prog w = .ok (.bool false) w := by
  obtain ⟨i, hi, hi1⟩ := Option.map_eq_some_iff.1 cmp28
  obtain ⟨j, hj, -⟩ := Option.map_eq_some_iff.1 has31
  simp only [binOp]
  simp [Op.equal, Op.maxDepth, run_equalIn_iface_ptr_same w 9998 a Ybad.underlying26 Ybad.underlying28 hi hi1 hj]
theorem ne33 (a : Addr) (w : World) : (binOp .neq 26 (.iface 33 (.pointer (some a))) (.iface 33 (.pointer (some a)))).run Ybad.prog w = .ok (.bool false) w := by
  obtain ⟨i, hi, hi1⟩ := Option.map_eq_some_iff.1 cmp33
  obtain ⟨j, hj, -⟩ := Option.map_eq_some_iff.1 has35
  simp only [binOp]
  simp [Op.equal, Op.maxDepth, run_equalIn_iface_ptr_same w 9998 a Ybad.underlying26 Ybad.underlying33 hi hi1 hj]

theorem law_kept0 (sel line inLine : Int) (s : ByteArray) (r : Bool) (w : World) (hs : 0 ≤ sel ∧ sel < 256) (hk : sel % 3 = 0) :
    Calls Ybad.prog 4 #[.int .u8 sel, .int .i64 line, .int .i64 inLine, .string s, .bool r] w fun e w' => e = .returned (.bool true) ∧ Below w.heap.size w w' := by
  obtain ⟨h1, h2⟩ := hs
  have hN := atLine_nil line
  go_enter Ybad.func4, Ybad.ntmps4
  go_wp2_with (go_at_call 5; refine (hN _).mono ?_; rintro e w' ⟨rfl, rfl⟩)
  go_ret
  exact ⟨rfl, (Below.refl _ w).alloc (Nat.le_refl _) _⟩

theorem law_kept1 (sel line inLine : Int) (s : ByteArray) (r : Bool) (w : World) (hs : 0 ≤ sel ∧ sel < 256) (hk : sel % 3 = 1) (hg : Reg w) :
    Calls Ybad.prog 4 #[.int .u8 sel, .int .i64 line, .int .i64 inLine, .string s, .bool r] w fun e w' => e = .returned (.bool true) ∧ Below w.heap.size w w' := by
  obtain ⟨h1, h2⟩ := hs
  have hN := atLine_self ⟨w.heap.size, 0, none⟩ line (w.alloc (.cells #[.int .i64 inLine, .string s, .bool r] 31)) (reg_alloc _ hg)
  have hn := ne28
  have hsz : (w.alloc (.cells #[.int .i64 inLine, .string s, .bool r] 31)).heap.size = w.heap.size + 1 := by simp
  go_enter Ybad.func4, Ybad.ntmps4
  go_wp2_with (go_at_call 5; refine hN.mono ?_; rintro e w' ⟨rfl, hbel⟩; have q0 : w'.cell? ⟨w.heap.size, 0, none⟩ = some (.int .i64 inLine) := (hbel.cell (p := ⟨w.heap.size, 0, none⟩) (by rw [hsz]; exact Nat.lt_succ_self _)).trans (by simp); have q1 : w'.cell? ⟨w.heap.size, 1, none⟩ = some (.string s) := (hbel.cell (p := ⟨w.heap.size, 1, none⟩) (by rw [hsz]; exact Nat.lt_succ_self _)).trans (by simp); have q2 : w'.cell? ⟨w.heap.size, 2, none⟩ = some (.bool r) := (hbel.cell (p := ⟨w.heap.size, 2, none⟩) (by rw [hsz]; exact Nat.lt_succ_self _)).trans (by simp); have HB : Hid _ := hbel; clear hbel)
  go_ret
  exact ⟨rfl, ((Below.refl _ w).alloc (Nat.le_refl _) _).trans (HB.out.mono (by rw [hsz]; exact Nat.le_succ _))⟩

/-- The world behind the wrap's atLine. -/
theorem wrap_world (inLine : Int) (s : ByteArray) (r : Bool) (w wb w' : World)
    (hwb : wb = (w.alloc (.cells #[.int .i64 inLine, .string s, .bool r] 31)).alloc (.cells #[.iface 28 (.pointer (some ⟨w.heap.size, 0, none⟩))] 35)) (hbel : Below wb.heap.size wb w') :
    w'.cell? ⟨w.heap.size, 0, none⟩ = some (.int .i64 inLine) ∧ w'.cell? ⟨w.heap.size, 1, none⟩ = some (.string s) ∧ w'.cell? ⟨w.heap.size, 2, none⟩ = some (.bool r) ∧ w'.cell? ⟨w.heap.size + 1, 0, none⟩ = some (.iface 28 (.pointer (some ⟨w.heap.size, 0, none⟩))) ∧ Below w.heap.size w w' := by
  have hsz : wb.heap.size = w.heap.size + 1 + 1 := by rw [hwb]; simp
  have hb0 : Below w.heap.size w wb := by rw [hwb]; exact ((Below.refl _ w).alloc (Nat.le_refl _) _).alloc (by simp) _
  refine ⟨(hbel.cell (p := ⟨w.heap.size, 0, none⟩) (by rw [hsz]; show w.heap.size < _; omega)).trans (by rw [hwb]; simp), (hbel.cell (p := ⟨w.heap.size, 1, none⟩) (by rw [hsz]; show w.heap.size < _; omega)).trans (by rw [hwb]; simp), (hbel.cell (p := ⟨w.heap.size, 2, none⟩) (by rw [hsz]; show w.heap.size < _; omega)).trans (by rw [hwb]; simp), (hbel.cell (p := ⟨w.heap.size + 1, 0, none⟩) (by rw [hsz]; show w.heap.size + 1 < _; omega)).trans (by rw [hwb]; simp), hb0.trans (hbel.mono (by rw [hsz]; omega))⟩

theorem law_kept2 (sel line inLine : Int) (s : ByteArray) (r : Bool) (w : World) (hs : 0 ≤ sel ∧ sel < 256) (hk : sel % 3 = 2) (hg : Reg w) :
    Calls Ybad.prog 4 #[.int .u8 sel, .int .i64 line, .int .i64 inLine, .string s, .bool r] w fun e w' => e = .returned (.bool true) ∧ Below w.heap.size w w' := by
  obtain ⟨h1, h2⟩ := hs
  have hN := atLine_wrap (w.heap.size + 1) ⟨w.heap.size, 0, none⟩ line ((w.alloc (.cells #[.int .i64 inLine, .string s, .bool r] 31)).alloc (.cells #[.iface 28 (.pointer (some ⟨w.heap.size, 0, none⟩))] 35)) (reg_alloc _ (reg_alloc _ hg)) (by simp)
  have hn := ne33
  have he := eq28
  go_enter Ybad.func4, Ybad.ntmps4
  go_wp2_with (go_at_call 5; refine hN.mono ?_; rintro e w' ⟨rfl, hbel⟩; obtain ⟨q0, q1, q2, q3, hbw⟩ := wrap_world inLine s r w _ w' rfl hbel; clear hbel)
  go_ret
  exact ⟨rfl, hbw⟩
end Go.Proofs.YbulkgcgDoor
