/-
  Seat b0338aD: '(*timeBlocks[int64]).blockOf', walked.
-/
import Derived.Test.YbulkfzaDoorMove
namespace Go.Proofs.YbulkfzaDoor
open Go.RowKit Go.Lib

theorem len64s (d j : Nat) (hd : d < 18446744073709551616) (hc : Lib.bitLen d = j + 1) (w : World) : Calls Ybad.prog 13 #[.int .u64 (d : Int)] w fun e w' => e = .returned (.int .i64 ((j : Int) + 1)) ∧ w' = w := by
  have := Ybad.bits_Len64 (d : Int) w (by omega) (by omega)
  rw [Int.toNat_natCast, hc] at this
  exact this

theorem onesI (low i : Nat) (h64 : low < 18446744073709551616) (h : Pop.pc low = i) (w : World) : Calls Ybad.prog 6 #[.int .u64 (low : Int)] w fun e w' => e = .returned (.int .i64 (i : Int)) ∧ w' = w := by
  subst h; exact ones low h64 w

set_option maxHeartbeats 1000000 in
theorem blockOf_set_core (p x F t d j low i m y b n c : Nat) (w : World) (hx : x < 9223372036854775808) (ht : t < 9223372036854775808) (hj : j < 63)
    (h0 : w.cell? ⟨p, 0, none⟩ = some (.int .u64 (x : Nat))) (h1 : w.cell? ⟨p, 1, none⟩ = some (.int .u64 (F : Nat))) (h2 : w.cell? ⟨p, 2, none⟩ = some (.slice (some ⟨b, 0, none⟩) n c))
    (hxor : bits .xor .u64 (t : Int) (x : Int) = (d : Int)) (hd : d < 18446744073709551616) (HL : Hid (Lib.bitLen d = j + 1)) (hlow64 : low < 18446744073709551616)
    (hlow : bits .and .u64 (F : Int) (IntKind.u64.wrap (IntKind.u64.wrap (2 ^ j) - 1)) = (low : Int)) (hlk : Hid (Pop.pc low = i)) (hin : (i : Int) < (n : Int))
    (hbit : bits .and .u64 (F : Int) (IntKind.u64.wrap (2 ^ j)) = (m : Int)) (hm : ((m : Int) == 0) = false)
    (hy : IntKind.u64.wrap ((x : Int) / 2 ^ j * 2 ^ j) = (y : Int)) (hyx : y ≤ x) :
    Calls Ybad.prog 9 #[.pointer (some ⟨p, 0, none⟩), .int .i64 t] w fun e w' => e = .returned (.tuple #[.pointer (some ⟨b, i, none⟩), .int .i64 ((y : Int) - 1)]) ∧ Mem w' w := by
  go_enter Ybad.func9, Ybad.ntmps9
  go_wp2_with fail
  refine (len64s d j hd HL.out _).mono ?_
  rintro e w' ⟨rfl, hw⟩
  subst hw
  go_wp2_with fail
  go_quiet ((go_at_call 6; exact Calls.quiet_of_same (onesI low i hlow64 hlk.out _)))
  go_wp2_with fail
  go_quiet (fail)
  go_wp2_with fail
  go_quiet (fail)
  go_wp2
  go_ret2
  exact ⟨rfl, rfl, rfl, rfl, rfl⟩

theorem insert_row_d (B : Nat) (w : World) (q : Nat) (s : Value) (n i : Nat) (hR : Row B w s n) (hi : i ≤ n) (hn : n ≤ 64) (hB : B ≤ w.heap.size) :
    Calls Ybad.prog 14 #[s, .int .i64 i, .slice (some ⟨w.heap.size, 0, none⟩) 1 1] ((w.drewN q).alloc (.cells #[.int .i64 0] 2)) fun e w' =>
      ∃ s', e = .returned s' ∧ Row B w' s' (n + 1) ∧ Below B w w' ∧ ∀ q, q < w.heap.size → Off s q → Kept w w' q := by
  refine (insert_row B (w.drewN q) s n i (hR.kept (fun _ _ _ => ⟨rfl, rfl⟩)) hi hn hB).mono ?_
  rintro e w' ⟨s', h1, h2, h3, h4⟩
  exact ⟨s', h1, h2, below_of_drewN h3, fun q hq ho => kept_of_drewN (h4 q hq ho)⟩

theorem Row.form2 {B : Nat} {w : World} {s : Value} {n : Nat} (h : Row B w s (n + 1)) : ∃ b c, s = .slice (some ⟨b, 0, none⟩) (n + 1) c := by
  rcases h with ⟨rfl, h⟩ | ⟨b, c, rfl, _⟩
  · omega
  · exact ⟨_, _, rfl⟩

/-- Two stores into the struct. -/
theorem St.stored2 {B : Nat} {w0 w1 W : World} {p x F' : Nat} {s1 s' : Value} {y1 : Value} (hl : B ≤ p) (hlt : p < w1.heap.size)
    (c0 : w1.cell? ⟨p, 0, none⟩ = some (.int .u64 (x : Nat))) (c1 : w1.cell? ⟨p, 1, none⟩ = some y1) (c2 : w1.cell? ⟨p, 2, none⟩ = some s1)
    (f0 : w1.frozen? ⟨p, 0, none⟩ = false) (f1 : w1.frozen? ⟨p, 1, none⟩ = false) (f2 : w1.frozen? ⟨p, 2, none⟩ = false)
    (hR : Row B w1 s' (Pop.pc F')) (ho : Off s' p) (hb : Below B w0 w1)
    (hm : Mem W ((w1.setCell ⟨p, 2, none⟩ s').setCell ⟨p, 1, none⟩ (.int .u64 (F' : Nat)))) :
    St B W p x F' s' ∧ Below B w0 W ∧ ∀ q, q ≠ p → Kept w0 w1 q → Kept w0 W q := by
  have hk : ∀ q, q ≠ p → Kept w1 W q := fun q hq => ((kept_setCell w1 p 2 s' q hq).trans (kept_setCell _ p 1 _ q hq)).trans (hm.kept q)
  refine ⟨⟨hl, ?_, ?_, ?_, ?_, ?_, ?_, ?_, ?_⟩, ?_, fun q hq h => h.trans (hk q hq)⟩
  · rw [hm.1]; simpa [World.setCell] using hlt
  · rw [hm.cell, World.cell?_setCell_other _ _ _ _ (by simp), World.cell?_setCell_other _ _ _ _ (by simp)]; exact c0
  · rw [hm.cell]; exact World.cell?_setCell_same' _ _ _ (by rw [World.cell?_setCell_other _ _ _ _ (by simp), c1]; rfl)
  · rw [hm.cell, World.cell?_setCell_other _ _ _ _ (by simp)]; exact World.cell?_setCell_same' _ _ _ (by rw [c2]; rfl)
  · rw [hm.frozen, World.frozen?_setCell, World.frozen?_setCell]; exact f0
  · rw [hm.frozen, World.frozen?_setCell, World.frozen?_setCell]; exact f1
  · rw [hm.frozen, World.frozen?_setCell, World.frozen?_setCell]; exact f2
  · refine hR.kept (fun q hq => hk q (fun e => hq (by rw [e]; exact ho)))
  · exact ((hb.setCell (p := ⟨p, 2, none⟩) hl _).setCell (p := ⟨p, 1, none⟩) hl _).trans (hm.below B)

set_option maxHeartbeats 1000000 in
theorem blockOf_new_core (B p x F F' t d j low i y n : Nat) (s : Value) (w : World) (hx : x < 9223372036854775808) (ht : t < 9223372036854775808) (hj : j < 63)
    (hst : St B w p x F s) (hn : Hid (Pop.pc F = n)) (hn' : Hid (Pop.pc F' = n + 1)) (hn64 : n ≤ 64) (hBw : B ≤ w.heap.size)
    (hxor : bits .xor .u64 (t : Int) (x : Int) = (d : Int)) (hd : d < 18446744073709551616) (HL : Hid (Lib.bitLen d = j + 1)) (hlow64 : low < 18446744073709551616)
    (hlow : bits .and .u64 (F : Int) (IntKind.u64.wrap (IntKind.u64.wrap (2 ^ j) - 1)) = (low : Int)) (hlk : Hid (Pop.pc low = i)) (hin : (i : Int) < (n : Int) + 1)
    (hbit : bits .and .u64 (F : Int) (IntKind.u64.wrap (2 ^ j)) = 0) (hor : bits .or .u64 (F : Int) (IntKind.u64.wrap (2 ^ j)) = (F' : Int))
    (hy : IntKind.u64.wrap ((x : Int) / 2 ^ j * 2 ^ j) = (y : Int)) (hyx : y ≤ x) :
    Calls Ybad.prog 9 #[.pointer (some ⟨p, 0, none⟩), .int .i64 t] w fun e w' => ∃ b c, e = .returned (.tuple #[.pointer (some ⟨b, i, none⟩), .int .i64 ((y : Int) - 1)]) ∧ St B w' p x F' (.slice (some ⟨b, 0, none⟩) (n + 1) c) ∧ Below B w w' ∧ ∀ q, q < w.heap.size → q ≠ p → Off s q → Kept w w' q := by
  have hoff := hst.off
  obtain ⟨hl, hlt, h0, h1, h2, f0, f1, f2, hR⟩ := hst
  rw [hn.out] at hR
  obtain ⟨sa, sc, hs⟩ := hR.form
  subst hs
  have HR : Hid (Row B w (.slice sa n sc) n) := hR
  have HO : Hid (Off (.slice sa n sc) p) := hoff
  clear hR hoff
  go_enter Ybad.func9, Ybad.ntmps9
  go_wp2_with fail
  refine (len64s d j hd HL.out _).mono ?_
  rintro e w' ⟨rfl, hw⟩
  subst hw
  go_wp2_with fail
  go_quiet ((go_at_call 6; exact Calls.quiet_of_same (onesI low i hlow64 hlk.out _)))
  go_wp2_with fail
  go_quiet (fail)
  go_wp2_with fail
  refine (insert_row_d B w' _ _ n i HR.out (by omega) hn64 hBw).mono ?_
  rintro e w2 ⟨s', rfl, hR', hB', hK'⟩
  obtain ⟨b, c, hs⟩ := hR'.form2
  subst hs
  have c0 := ((hK' p hlt HO.out) 0).1.trans h0
  have c1 := ((hK' p hlt HO.out) 1).1.trans h1
  have c2 := ((hK' p hlt HO.out) 2).1.trans h2
  have g0 := ((hK' p hlt HO.out) 0).2.trans f0
  have g1 := ((hK' p hlt HO.out) 1).2.trans f1
  have g2 := ((hK' p hlt HO.out) 2).2.trans f2
  have HB : Hid (Below B w' w2) := hB'
  have HK : Hid (∀ q, q < w'.heap.size → Off (.slice sa n sc) q → Kept w' w2 q) := hK'
  have HR' : Hid (Row B w2 (.slice (some ⟨b, 0, none⟩) (n + 1) c) (n + 1)) := hR'
  clear hK' hB' hR'
  go_wp2_with fail
  go_region
  go_wp2_with fail
  go_quiet (fail)
  go_wp2
  go_ret2
  refine ⟨b, c, rfl, ?_⟩
  suffices h : ∀ W, Mem W ((w2.setCell ⟨p, 2, none⟩ (.slice (some ⟨b, 0, none⟩) (n + 1) c)).setCell ⟨p, 1, none⟩ (.int .u64 (F' : Nat))) → St B W p x F' (.slice (some ⟨b, 0, none⟩) (n + 1) c) ∧ Below B w' W ∧ ∀ q, q < w'.heap.size → q ≠ p → Off (.slice sa n sc) q → Kept w' W q from h _ ⟨rfl, rfl, rfl, rfl⟩
  intro W hm
  obtain ⟨r1, r2, r3⟩ := St.stored2 hl (Nat.lt_of_lt_of_le hlt HB.out.size) c0 c1 c2 g0 g1 g2 (by rw [hn'.out]; exact HR'.out) (off_of HR'.out c0) HB.out hm
  exact ⟨r1, r2, fun q hq hp ho => r3 q hp (HK.out q hq ho)⟩

theorem St.mem {B : Nat} {w W : World} {p x F : Nat} {s : Value} (h : St B w p x F s) (hm : Mem W w) : St B W p x F s :=
  ⟨h.low, by rw [hm.1]; exact h.lt, by rw [hm.cell]; exact h.c0, by rw [hm.cell]; exact h.c1, by rw [hm.cell]; exact h.c2, by rw [hm.frozen]; exact h.f0, by rw [hm.frozen]; exact h.f1, by rw [hm.frozen]; exact h.f2, h.row.kept (fun q _ => hm.kept q)⟩

theorem shift_form (x j : Nat) (hx : x < 18446744073709551616) : IntKind.u64.wrap ((x : Int) / 2 ^ j * 2 ^ j) = ((x / 2 ^ j * 2 ^ j : Nat) : Int) := by
  have h := Nat.div_mul_le_self x (2 ^ j)
  have e : ((x : Int) / 2 ^ j * 2 ^ j) = ((x / 2 ^ j * 2 ^ j : Nat) : Int) := by simp
  rw [e]
  exact wrap_of _ (by omega)

theorem and_form (F j : Nat) (hF : F < 18446744073709551616) (hj : j ≤ 63) : bits .and .u64 (F : Int) (IntKind.u64.wrap (IntKind.u64.wrap (2 ^ j) - 1)) = ((F % 2 ^ j : Nat) : Int) := by
  have hp : 2 ^ j ≤ 2 ^ 63 := Nat.pow_le_pow_right (by decide) hj
  rw [mask_form j hj, u64_and_nat F _ hF (by omega), Pop.and_low]

theorem bit_form (F j : Nat) (hF : F < 18446744073709551616) (hj : j ≤ 63) : bits .and .u64 (F : Int) (IntKind.u64.wrap (2 ^ j)) = ((F &&& 2 ^ j : Nat) : Int) := by
  have hp : 2 ^ j ≤ 2 ^ 63 := Nat.pow_le_pow_right (by decide) hj
  rw [pow_form j hj, u64_and_nat F _ hF (by omega)]

theorem and_bit (F j : Nat) : F &&& 2 ^ j = if F.testBit j then 2 ^ j else 0 := by
  rw [nat_bit, Pop.bit_div]
  have h2 : F / 2 ^ j % 2 = 0 ∨ F / 2 ^ j % 2 = 1 := by generalize F / 2 ^ j = q; omega
  rcases h2 with h | h <;> simp [h]

/-- blockOf(t) where the block is stored: the place of its block; the world is as it was. -/
theorem blockOf_set (B p x F t j : Nat) (s : Value) (w : World) (hx : x < 9223372036854775808) (hF : F < 18446744073709551616) (ht : t < 9223372036854775808) (hj : j < 63) (hst : St B w p x F s)
    (hbl : Lib.bitLen (t ^^^ x) = j + 1) (hb : F.testBit j = true) :
    ∃ b c, s = .slice (some ⟨b, 0, none⟩) (Pop.pc F) c ∧ Pop.pc (F % 2 ^ j) < Pop.pc F ∧ Calls Ybad.prog 9 #[.pointer (some ⟨p, 0, none⟩), .int .i64 t] w fun e w' =>
      e = .returned (.tuple #[.pointer (some ⟨b, Pop.pc (F % 2 ^ j), none⟩), .int .i64 (((x / 2 ^ j * 2 ^ j : Nat) : Int) - 1)]) ∧ Mem w' w := by
  have hlt := Pop.pc_low_lt F j (by omega) hb
  obtain ⟨n, hn⟩ : ∃ n, Pop.pc F = n + 1 := ⟨Pop.pc F - 1, by omega⟩
  have hR := hst.row
  rw [hn] at hR
  obtain ⟨b, c, hs⟩ := hR.form2
  refine ⟨b, c, by rw [hs, hn], hlt, ?_⟩
  have h2 := hst.c2
  rw [hs] at h2
  have hxor : t ^^^ x < 2 ^ 64 := Nat.xor_lt_two_pow (by omega) (by omega)
  have hp := Nat.two_pow_pos j
  refine blockOf_set_core p x F t (t ^^^ x) j (F % 2 ^ j) (Pop.pc (F % 2 ^ j)) (F &&& 2 ^ j) (x / 2 ^ j * 2 ^ j) b (n + 1) c w hx ht hj hst.c0 hst.c1 h2 (u64_xor_nat t x (by omega) (by omega)) (by omega) hbl ?_ (and_form F j hF (by omega)) rfl ?_ (bit_form F j hF (by omega)) ?_ (shift_form x j (by omega)) (Nat.div_mul_le_self _ _)
  · exact Nat.lt_of_le_of_lt (Nat.mod_le _ _) hF
  · omega
  · rw [and_bit, if_pos hb]
    have : ((2 ^ j : Nat) : Int) ≠ 0 := by omega
    simpa using this

/-- blockOf(t) where no block is stored: one more. -/
theorem blockOf_new (B p x F t j : Nat) (s : Value) (w : World) (hx : x < 9223372036854775808) (hF : F < 9223372036854775808) (ht : t < 9223372036854775808) (hj : j < 63) (hB : B ≤ w.heap.size) (hst : St B w p x F s)
    (hbl : Lib.bitLen (t ^^^ x) = j + 1) (hb : F.testBit j = false) :
    Calls Ybad.prog 9 #[.pointer (some ⟨p, 0, none⟩), .int .i64 t] w fun e w' => ∃ b c,
      e = .returned (.tuple #[.pointer (some ⟨b, Pop.pc (F % 2 ^ j), none⟩), .int .i64 (((x / 2 ^ j * 2 ^ j : Nat) : Int) - 1)]) ∧ St B w' p x (F ||| 2 ^ j) (.slice (some ⟨b, 0, none⟩) (Pop.pc (F ||| 2 ^ j)) c) ∧ Below B w w' ∧ ∀ q, q < w.heap.size → q ≠ p → Off s q → Kept w w' q := by
  obtain ⟨ho, hpc⟩ := Pop.or_bit F j (by omega) hb
  have hle := Pop.pc_low_le F j (by omega)
  have hxor : t ^^^ x < 2 ^ 64 := Nat.xor_lt_two_pow (by omega) (by omega)
  have hp : 2 ^ j ≤ 2 ^ 62 := Nat.pow_le_pow_right (by decide) (by omega)
  rw [hpc]
  refine blockOf_new_core B p x F (F ||| 2 ^ j) t (t ^^^ x) j (F % 2 ^ j) (Pop.pc (F % 2 ^ j)) (x / 2 ^ j * 2 ^ j) (Pop.pc F) s w hx ht hj hst rfl hpc (Pop.pc_le F) hB (u64_xor_nat t x (by omega) (by omega)) (by omega) hbl ?_ (and_form F j (by omega) (by omega)) rfl ?_ ?_ ?_ (shift_form x j (by omega)) (Nat.div_mul_le_self _ _)
  · exact Nat.lt_of_le_of_lt (Nat.mod_le _ _) (by omega)
  · omega
  · rw [bit_form F j (by omega) (by omega), and_bit, if_neg (by simp [hb])]; rfl
  · rw [pow_form j (by omega)]
    exact u64_or_nat F (2 ^ j) (by omega) (by omega)
end Go.Proofs.YbulkfzaDoor
