/-
  Seat b0338aD: '(*timeBlocks[int64]).moveTo', walked.
-/
import Derived.Test.YbulkfzaDoorMem
import Derived.Test.YbulkfzaDoorOnes
import Derived.Test.YbulkfzaDoorBits
import Derived.WalkKit
import Derived.WalkLawsBesides
import Derived.BigQuiet
import Derived.Deep.QuietTactic
import Derived.Deep.RegionWith
import Derived.Outline
import Derived.WalkSpells
namespace Go.Proofs.YbulkfzaDoor
open Go.RowKit Go.Lib

theorem len64 (d c : Nat) (hd : d < 18446744073709551616) (hc : Lib.bitLen d = c) (w : World) : Calls Ybad.prog 13 #[.int .u64 (d : Int)] w fun e w' => e = .returned (.int .i64 (c : Nat)) ∧ w' = w := by
  have := Ybad.bits_Len64 (d : Int) w (by omega) (by omega)
  rwa [Int.toNat_natCast, hc] at this

theorem Row.form {B : Nat} {w : World} {s : Value} {n : Nat} (h : Row B w s n) : ∃ a c, s = .slice a n c := by
  rcases h with ⟨rfl, rfl⟩ | ⟨b, c, rfl, _⟩
  · exact ⟨_, _, rfl⟩
  · exact ⟨_, _, rfl⟩

/-- The struct at block p: x, filled, blocks; as many blocks as filled has one bits. -/
structure St (B : Nat) (w : World) (p x F : Nat) (s : Value) : Prop where
  low : B ≤ p
  lt : p < w.heap.size
  c0 : w.cell? ⟨p, 0, none⟩ = some (.int .u64 (x : Nat))
  c1 : w.cell? ⟨p, 1, none⟩ = some (.int .u64 (F : Nat))
  c2 : w.cell? ⟨p, 2, none⟩ = some s
  f0 : w.frozen? ⟨p, 0, none⟩ = false
  f1 : w.frozen? ⟨p, 1, none⟩ = false
  f2 : w.frozen? ⟨p, 2, none⟩ = false
  row : Row B w s (Pop.pc F)

/-- The struct's block is not the row's. -/
theorem off_of {B : Nat} {w : World} {p n : Nat} {x : Int} {s : Value} (hR : Row B w s n) (c0 : w.cell? ⟨p, 0, none⟩ = some (.int .u64 x)) : Off s p := by
  intro a m c e hb
  rcases hR with ⟨h1, _⟩ | ⟨b, c', h1, _, h2, _, _, h3, _⟩
  · rw [h1] at e; cases e
  · rw [h1] at e
    cases e
    obtain ⟨z, hz⟩ := h3 0 h2
    simp only at hb
    rw [← hb, hz] at c0
    cases c0
theorem St.off {B : Nat} {w : World} {p x F : Nat} {s : Value} (h : St B w p x F s) : Off s p := off_of h.row h.c0

/-- One memory, whatever was drawn. -/
def Mem (W X : World) : Prop := W.heap = X.heap ∧ W.os = X.os ∧ W.tape = X.tape ∧ W.output = X.output
theorem Mem.cell {W X : World} (h : Mem W X) (a : Addr) : W.cell? a = X.cell? a := by simp [World.cell?, h.1]
theorem Mem.frozen {W X : World} (h : Mem W X) (a : Addr) : W.frozen? a = X.frozen? a := by simp [World.frozen?, h.1]
theorem Mem.kept {W X : World} (h : Mem W X) (q : Nat) : Kept X W q := fun _ => ⟨h.cell _, h.frozen _⟩
theorem Mem.below {W X : World} (h : Mem W X) (B : Nat) : Below B X W := ⟨h.2.1, h.2.2.1, h.2.2.2, by rw [h.1]; exact Nat.le_refl _, fun k _ => by rw [h.1]⟩

theorem kept_setCell (w : World) (b o : Nat) (v : Value) (q : Nat) (h : q ≠ b) : Kept w (w.setCell ⟨b, o, none⟩ v) q := kept_setCells w b o [v] q h

theorem below_of_drewN {B q : Nat} {w w2 : World} (h : Below B (w.drewN q) w2) : Below B w w2 := ⟨h.os, h.tape, h.output, h.size, h.block⟩
theorem kept_of_drewN {b q : Nat} {w w2 : World} (h : Kept (w.drewN q) w2 b) : Kept w w2 b := fun o => h o

/-- Three stores into the struct. -/
theorem St.stored {B : Nat} {w1 W : World} {p x' F' : Nat} {s1 s' : Value} {y0 y1 : Value} (hl : B ≤ p) (hlt : p < w1.heap.size)
    (c0 : w1.cell? ⟨p, 0, none⟩ = some y0) (c1 : w1.cell? ⟨p, 1, none⟩ = some y1) (c2 : w1.cell? ⟨p, 2, none⟩ = some s1)
    (f0 : w1.frozen? ⟨p, 0, none⟩ = false) (f1 : w1.frozen? ⟨p, 1, none⟩ = false) (f2 : w1.frozen? ⟨p, 2, none⟩ = false)
    (hR : Row B w1 s' (Pop.pc F')) (ho : Off s' p)
    (hm : Mem W (((w1.setCell ⟨p, 2, none⟩ s').setCell ⟨p, 1, none⟩ (.int .u64 (F' : Nat))).setCell ⟨p, 0, none⟩ (.int .u64 (x' : Nat)))) :
    St B W p x' F' s' ∧ Below B w1 W := by
  have hk : ∀ q, q ≠ p → Kept w1 W q := fun q hq => (((kept_setCell w1 p 2 s' q hq).trans (kept_setCell _ p 1 _ q hq)).trans (kept_setCell _ p 0 _ q hq)).trans (hm.kept q)
  refine ⟨⟨hl, ?_, ?_, ?_, ?_, ?_, ?_, ?_, ?_⟩, ?_⟩
  · rw [hm.1]; simpa [World.setCell] using hlt
  · rw [hm.cell]; exact World.cell?_setCell_same' _ _ _ (by rw [World.cell?_setCell_other _ _ _ _ (by simp), World.cell?_setCell_other _ _ _ _ (by simp), c0]; rfl)
  · rw [hm.cell, World.cell?_setCell_other _ _ _ _ (by simp)]; exact World.cell?_setCell_same' _ _ _ (by rw [World.cell?_setCell_other _ _ _ _ (by simp), c1]; rfl)
  · rw [hm.cell, World.cell?_setCell_other _ _ _ _ (by simp), World.cell?_setCell_other _ _ _ _ (by simp)]; exact World.cell?_setCell_same' _ _ _ (by rw [c2]; rfl)
  · rw [hm.frozen, World.frozen?_setCell, World.frozen?_setCell, World.frozen?_setCell]; exact f0
  · rw [hm.frozen, World.frozen?_setCell, World.frozen?_setCell, World.frozen?_setCell]; exact f1
  · rw [hm.frozen, World.frozen?_setCell, World.frozen?_setCell, World.frozen?_setCell]; exact f2
  · refine hR.kept (fun q hq => hk q (fun e => hq (by rw [e]; exact ho)))
  · exact ((((Below.refl B w1).setCell (p := ⟨p, 2, none⟩) hl _).setCell (p := ⟨p, 1, none⟩) hl _).setCell (p := ⟨p, 0, none⟩) hl _).trans (hm.below B)

set_option maxHeartbeats 1000000 in
theorem moveTo_core (B p x F F' at_ d c low n k : Nat) (s : Value) (w : World) (hat : at_ < 9223372036854775807)
    (hst : St B w p x F s) (hn : Hid (Pop.pc F = n)) (hn' : Hid (Pop.pc F' = n - k)) (hlk : Hid (Pop.pc low = k)) (hkn : k ≤ n)
    (hxor : bits .xor .u64 ((at_ : Int) + 1) (x : Int) = (d : Int)) (hd : d < 18446744073709551616) (hc63 : c < 64) (hlow64 : low < 18446744073709551616)
    (hlow : bits .and .u64 (F : Int) (IntKind.u64.wrap (IntKind.u64.wrap (2 ^ c) - 1)) = (low : Int))
    (hnot : bits .andNot .u64 (F : Int) (low : Int) = (F' : Int))
    (HL : Hid (Lib.bitLen d = c)) :
    Calls Ybad.prog 10 #[.pointer (some ⟨p, 0, none⟩), .int .i64 at_] w fun e w' => (∃ v, e = .returned v) ∧ ∃ s', St B w' p (at_ + 1) F' s' ∧ Below B w w' := by
  have hoff := hst.off
  obtain ⟨hl, hlt, h0, h1, h2, f0, f1, f2, hR⟩ := hst
  rw [hn.out] at hR
  obtain ⟨sa, sc, hs⟩ := hR.form
  subst hs
  have HR : Hid (Row B w (.slice sa n sc) n) := hR
  have HO : Hid (Off (.slice sa n sc) p) := hoff
  clear hR hoff
  go_enter Ybad.func10, Ybad.ntmps10
  go_wp2_with fail
  refine (len64 d c hd HL.out _).mono ?_
  rintro e w' ⟨rfl, hw⟩
  subst hw
  go_wp2_with fail
  go_quiet (fail)
  go_wp2_with fail
  go_region_with (first
    | (go_at_call 6; refine (ones low hlow64 _).mono ?_; rintro e w2 ⟨rfl, rfl⟩; rw [hlk.out])
    | (go_at_call 15; go_must (refine (delete_row B _ _ n k ?hh hkn).mono ?_); go_must (case hh => exact HR.out.kept (fun q _ o => ⟨rfl, rfl⟩)); go_must (rintro e w2 ⟨s', rfl, hR', hB', hK'⟩; obtain ⟨sa', sc', rfl⟩ := hR'.form; have c0 := ((hK' p HO.out) 0).1.trans h0; have c1 := ((hK' p HO.out) 1).1.trans h1; have c2 := ((hK' p HO.out) 2).1.trans h2; have g0 := ((hK' p HO.out) 0).2.trans f0; have g1 := ((hK' p HO.out) 1).2.trans f1; have g2 := ((hK' p HO.out) 2).2.trans f2; have HK : Hid (∀ q, Off (.slice sa n sc) q → Kept w' w2 q) := fun q hq => kept_of_drewN (hK' q hq); have HB : Hid (Below B w' w2) := below_of_drewN hB'; have HR' : Hid (Row B w2 (.slice sa' (n - k) sc') (n - k)) := hR'; clear hK' hB' hR')))
  all_goals
    go_wp2
    go_ret
    have fin := St.stored (W := _) (x' := at_ + 1) (F' := F') hl (Nat.lt_of_lt_of_le hlt HB.out.size) c0 c1 c2 g0 g1 g2 (by rw [hn'.out]; exact HR'.out) (off_of HR'.out c0) ⟨rfl, rfl, rfl, rfl⟩
    exact ⟨⟨_, rfl⟩, _, fin.1, HB.out.trans fin.2⟩

theorem pow_form (c : Nat) (hc : c ≤ 63) : IntKind.u64.wrap ((2 : Int) ^ c) = ((2 ^ c : Nat) : Int) := by
  have hp : 2 ^ c ≤ 2 ^ 63 := Nat.pow_le_pow_right (by decide) hc
  have e : ((2 : Int) ^ c) = ((2 ^ c : Nat) : Int) := by simp
  rw [e, IntKind.wrap_u64]
  generalize 2 ^ c = P at hp ⊢
  omega
theorem mask_form (c : Nat) (hc : c ≤ 63) : IntKind.u64.wrap (IntKind.u64.wrap ((2 : Int) ^ c) - 1) = ((2 ^ c - 1 : Nat) : Int) := by
  have hp : 2 ^ c ≤ 2 ^ 63 := Nat.pow_le_pow_right (by decide) hc
  have hpp := Nat.two_pow_pos c
  rw [pow_form c hc, IntKind.wrap_u64]
  generalize 2 ^ c = P at hp hpp ⊢
  omega

/-- **moveTo(at), at from 0 on: x is at + 1; of filled what lies below the highest bit that differs is gone, and of the blocks as many.** -/
theorem moveTo (B p x F at_ : Nat) (s : Value) (w : World) (hx : x < 9223372036854775808) (hF : F < 18446744073709551616) (hat : at_ < 9223372036854775807) (hst : St B w p x F s) :
    Calls Ybad.prog 10 #[.pointer (some ⟨p, 0, none⟩), .int .i64 at_] w fun e w' => (∃ v, e = .returned v) ∧ ∃ s', St B w' p (at_ + 1) (Pop.hi F (Lib.bitLen ((at_ + 1) ^^^ x))) s' ∧ Below B w w' := by
  have hd63 : (at_ + 1) ^^^ x < 2 ^ 63 := Nat.xor_lt_two_pow (by omega) (by omega)
  have hc := Lib.bitLen_le ((at_ + 1) ^^^ x) 63 (by omega) hd63
  have hlow := Nat.mod_le F (2 ^ Lib.bitLen ((at_ + 1) ^^^ x))
  have hp : 2 ^ Lib.bitLen ((at_ + 1) ^^^ x) ≤ 2 ^ 63 := Nat.pow_le_pow_right (by decide) hc
  have hpp := Nat.two_pow_pos (Lib.bitLen ((at_ + 1) ^^^ x))
  have hparts := Pop.pc_parts (Lib.bitLen ((at_ + 1) ^^^ x)) (by omega) F
  refine moveTo_core B p x F _ at_ ((at_ + 1) ^^^ x) (Lib.bitLen ((at_ + 1) ^^^ x)) (F % 2 ^ Lib.bitLen ((at_ + 1) ^^^ x)) (Pop.pc F) (Pop.pc (F % 2 ^ Lib.bitLen ((at_ + 1) ^^^ x))) s w hat hst rfl ?_ rfl (by omega) ?_ (by omega) (by omega) (by omega) ?_ ?_ rfl
  · show Pop.pc _ = _; omega
  · exact u64_xor_nat (at_ + 1) x (by omega) (by omega)
  · rw [← Pop.and_low]
    rw [mask_form _ hc]
    exact u64_and_nat F _ hF (by omega)
  · rw [u64_andNot_nat F _ hF (by omega), Pop.andNot_low F _ (by omega)]
end Go.Proofs.YbulkfzaDoor
