/-
  Seat b0338aD: math/bits.OnesCount64, Go's own text walked: it returns the number of one bits.
-/
import Derived.Test.YbulkfzaDoorPop
import Derived.Test.YbulkfzaDoorProg
import Derived.WalkKit
import Derived.WalkLawsBesides
import Derived.Laws.BitsAllLaws
import Derived.Laws.Bits128
namespace Go.Proofs.YbulkfzaDoor
open Go.RowKit

theorem ret_int {k : IntKind} {a b : Int} (h : a = b) : Ending.returned (.int k a) = .returned (.int k b) := by rw [h]

theorem ones_core (x a b c d e f : Nat) (w : World)
    (ha : IntKind.u64.wrap (bits .and .u64 ((x : Int) / 2) 6148914691236517205 + bits .and .u64 (x : Int) 6148914691236517205) = (a : Int))
    (hb : IntKind.u64.wrap (bits .and .u64 ((a : Int) / 4) 3689348814741910323 + bits .and .u64 (a : Int) 3689348814741910323) = (b : Int))
    (hc : bits .and .u64 (IntKind.u64.wrap ((b : Int) / 16 + (b : Int))) 1085102592571150095 = (c : Int))
    (hd : IntKind.u64.wrap ((c : Int) + (c : Int) / 256) = (d : Int))
    (he : IntKind.u64.wrap ((d : Int) + (d : Int) / 65536) = (e : Int))
    (hf : IntKind.u64.wrap ((e : Int) + (e : Int) / 4294967296) = (f : Int)) :
    Calls Ybad.prog 6 #[.int .u64 x] w fun e w' => e = .returned (.int .i64 (bits .and .i64 (wrap64 f) 127)) ∧ w' = w := by
  go_enter Ybad.func6, Ybad.ntmps6
  go_wp2
  go_ret
  exact ⟨rfl, rfl⟩

theorem mask85 : Pop.mask 85 8 = 6148914691236517205 := by decide
theorem mask51 : Pop.mask 51 8 = 3689348814741910323 := by decide
theorem mask15 : Pop.mask 15 8 = 1085102592571150095 := by decide

theorem wrap_of (n : Nat) (h : n < 18446744073709551616) : IntKind.u64.wrap (n : Int) = (n : Int) := by rw [IntKind.wrap_u64]; omega

theorem and_le_r (a m : Nat) : a &&& m ≤ m := Nat.and_le_right

/-- **math/bits.OnesCount64: the number of one bits; the world is as it was.** -/
theorem ones (x : Nat) (hx : x < 18446744073709551616) (w : World) : Calls Ybad.prog 6 #[.int .u64 x] w fun e w' => e = .returned (.int .i64 (Pop.pc x : Nat)) ∧ w' = w := by
  obtain ⟨a, ha⟩ : ∃ a, a = Pop.sA 8 x := ⟨_, rfl⟩
  obtain ⟨b, hb⟩ : ∃ b, b = Pop.sB 8 a := ⟨_, rfl⟩
  obtain ⟨c, hc⟩ : ∃ c, c = Pop.sC 8 b := ⟨_, rfl⟩
  obtain ⟨d, hd⟩ : ∃ d, d = c + c / 256 := ⟨_, rfl⟩
  obtain ⟨e, he⟩ : ∃ e, e = d + d / 65536 := ⟨_, rfl⟩
  obtain ⟨f, hf⟩ : ∃ f, f = e + e / 4294967296 := ⟨_, rfl⟩
  obtain ⟨r1, r2, r3, r4⟩ := Pop.pc_go x a b c d e f ha hb hc hd he hf
  have ka : a ≤ 12297829382473034410 := by
    rw [ha, Pop.sA, mask85]
    have h1 := and_le_r (x / 2) 6148914691236517205
    have h2 := and_le_r x 6148914691236517205
    omega
  have kb : b ≤ 7378697629483820646 := by
    rw [hb, Pop.sB, mask51]
    have h1 := and_le_r (a / 4) 3689348814741910323
    have h2 := and_le_r a 3689348814741910323
    omega
  have ea : IntKind.u64.wrap (bits .and .u64 ((x : Int) / 2) 6148914691236517205 + bits .and .u64 (x : Int) 6148914691236517205) = (a : Int) := by
    have e1 := u64_and_nat (x / 2) 6148914691236517205 (by omega) (by decide)
    have e2 := u64_and_nat x 6148914691236517205 hx (by decide)
    have e3 := wrap_of a (by omega)
    rw [ha, Pop.sA, mask85] at e3
    rw [ha, Pop.sA, mask85]
    rw [← e3]
    rw [Int.natCast_add, ← e1, ← e2]
    rfl
  have eb : IntKind.u64.wrap (bits .and .u64 ((a : Int) / 4) 3689348814741910323 + bits .and .u64 (a : Int) 3689348814741910323) = (b : Int) := by
    have e1 := u64_and_nat (a / 4) 3689348814741910323 (by omega) (by decide)
    have e2 := u64_and_nat a 3689348814741910323 (by omega) (by decide)
    have e3 := wrap_of b (by omega)
    rw [hb, Pop.sB, mask51] at e3
    rw [hb, Pop.sB, mask51]
    rw [← e3]
    rw [Int.natCast_add, ← e1, ← e2]
    rfl
  have ec : bits .and .u64 (IntKind.u64.wrap ((b : Int) / 16 + (b : Int))) 1085102592571150095 = (c : Int) := by
    have e1 := u64_and_nat (b / 16 + b) 1085102592571150095 (by omega) (by decide)
    have e3 := wrap_of (b / 16 + b) (by omega)
    rw [hc, Pop.sC, mask15]
    rw [← e1, ← e3]
    rfl
  have ed : IntKind.u64.wrap ((c : Int) + (c : Int) / 256) = (d : Int) := by
    have := wrap_of d (by omega)
    rw [hd] at this ⊢
    exact this
  have ee : IntKind.u64.wrap ((d : Int) + (d : Int) / 65536) = (e : Int) := by
    have := wrap_of e (by omega)
    rw [he] at this ⊢
    exact this
  have ef : IntKind.u64.wrap ((e : Int) + (e : Int) / 4294967296) = (f : Int) := by
    have := wrap_of f (by omega)
    rw [hf] at this ⊢
    exact this
  refine (ones_core x a b c d e f w ea eb ec ed ee ef).mono ?_
  rintro ev w' ⟨rfl, rfl⟩
  refine ⟨ret_int ?_, rfl⟩
  rw [i64_and127, ← r1]
  unfold wrap64
  clear ea eb ec ed ee ef ha hb hc hd he hf
  omega
end Go.Proofs.YbulkfzaDoor
