/-
  Seat b0346a: 'LawS0346BExact', walked.
-/
import Derived.Test.YbulkgdiOf2
namespace Go.Proofs.Ybulkgdi
open Go.RowKit Go.Lib

set_option maxHeartbeats 400000 in
theorem exact_core (aR pR A P Q : Int) (hA : bits .and .u64 (IntKind.u64.wrap aR) 9223372036854775807 = A) (hA0 : 0 ≤ A) (hA1 : A ≤ 9223372036854775807) (hP : (IntKind.u64.wrap pR).tmod 1048577 = P) (hP0 : 0 ≤ P) (hP1 : P ≤ 1048576) (hW : IntKind.u64.wrap (wrap64 Q) = Q)
    (hQ : IntKind.u64.wrap (IntKind.u64.wrap (A / 1000000 * P) + IntKind.u64.wrap ((IntKind.u64.wrap (IntKind.u64.wrap (A % 1000000 * P) + 500000)).tdiv 1000000)) = Q) (w : World)
    (hO : ∀ w, Calls Yba.prog 5 #[.int .i64 P, .int .i64 A] w fun e w' => e = .returned (.int .i64 (wrap64 Q)) ∧ ∃ q, w' = w.drewN q) :
    Calls Yba.prog 3 #[.int .i64 aR, .int .i64 pR] w fun e w' => e = .returned (.bool true) ∧ ∃ q, w' = w.drewN q := by
  go_enter Yba.func3, Yba.ntmps3
  go_wp2_with (go_at_call 5; refine (hO _).mono ?_; rintro e w' ⟨rfl, q, rfl⟩)
  go_ret
  exact ⟨rfl, _, rfl⟩

theorem want_eq (a p : Nat) : (a * p + 500000) / 1000000 = a / 1000000 * p + (a % 1000000 * p + 500000) / 1000000 := by
  have h := split_of a 1000000
  have e : a * p = a / 1000000 * p * 1000000 + a % 1000000 * p := by
    conv => lhs; rw [h]
    rw [Nat.add_mul, Nat.mul_right_comm]
  rw [e, Nat.add_assoc, Nat.add_comm, Nat.add_mul_div_right _ _ (by omega), Nat.add_comm]

theorem wrapQ (a p : Nat) (ha : a ≤ 9223372036854775807) (hp : p ≤ 1048576) :
    IntKind.u64.wrap (IntKind.u64.wrap ((a : Int) / 1000000 * (p : Int)) + IntKind.u64.wrap ((IntKind.u64.wrap (IntKind.u64.wrap ((a : Int) % 1000000 * (p : Int)) + 500000)).tdiv 1000000)) = (((a * p + 500000) / 1000000 : Nat) : Int) ∧ (a * p + 500000) / 1000000 < 18446744073709551616 := by
  have h1 : a / 1000000 * p ≤ 9223372036854 * 1048576 := Nat.mul_le_mul (by omega) hp
  have h2 : a % 1000000 * p ≤ 999999 * 1048576 := Nat.mul_le_mul (by omega) hp
  have e1 : (a : Int) / 1000000 * (p : Int) = ((a / 1000000 * p : Nat) : Int) := by rw [Int.natCast_mul, Int.natCast_ediv]; rfl
  have e2 : (a : Int) % 1000000 * (p : Int) = ((a % 1000000 * p : Nat) : Int) := by rw [Int.natCast_mul, Int.natCast_emod]; rfl
  rw [want_eq, e1, e2]
  generalize a / 1000000 * p = X at h1
  generalize a % 1000000 * p = Y at h2
  have e3 : IntKind.u64.wrap (Y : Int) = Y := Mul64.wrapN Y (by omega)
  have e4 : (Y : Int) + 500000 = ((Y + 500000 : Nat) : Int) := by omega
  rw [Mul64.wrapN X (by omega), e3, e4, Mul64.wrapN (Y + 500000) (by omega)]
  have e5 : ((Y + 500000 : Nat) : Int).tdiv 1000000 = (((Y + 500000) / 1000000 : Nat) : Int) := tdiv_nat _ 1000000
  have h3 : (Y + 500000) / 1000000 ≤ 1048576 := by omega
  rw [e5]
  generalize (Y + 500000) / 1000000 = Z at h3
  rw [Mul64.wrapN Z (by omega), Mul64.addN, Mul64.wrapN (X + Z) (by omega)]
  exact ⟨rfl, by omega⟩

theorem uwrap_nat (z : Int) : ∃ n : Nat, IntKind.u64.wrap z = (n : Int) ∧ n < 18446744073709551616 := by
  refine ⟨(z % 18446744073709551616).toNat, ?_, ?_⟩
  · rw [IntKind.wrap_u64]; omega
  · omega

theorem low63 (n : Nat) (h : n < 18446744073709551616) : bits .and .u64 (n : Int) 9223372036854775807 = ((n % 9223372036854775808 : Nat) : Int) := by
  have := bits_and_u64_nat n 9223372036854775807 h (by omega)
  rw [show n &&& 9223372036854775807 = n % 9223372036854775808 from Nat.and_two_pow_sub_one_eq_mod n 63] at this
  exact this

theorem back_wrap (n : Nat) (h : n < 18446744073709551616) : IntKind.u64.wrap (wrap64 (n : Int)) = (n : Int) := by
  rw [IntKind.wrap_u64]
  unfold wrap64
  omega

theorem tmod_nat (a d : Nat) : (a : Int).tmod (d : Int) = ((a % d : Nat) : Int) := by
  rw [Int.tmod_eq_emod_of_nonneg (by omega)]; simp

theorem exact_walk (aR pR : Int) (w : World) :
    Calls Yba.prog 3 #[.int .i64 aR, .int .i64 pR] w fun e w' => e = .returned (.bool true) ∧ ∃ q, w' = w.drewN q := by
  obtain ⟨ua, ea, ba⟩ := uwrap_nat aR
  obtain ⟨up, ep, bp⟩ := uwrap_nat pR
  have hA := low63 ua ba
  have hP : (up : Int).tmod 1048577 = ((up % 1048577 : Nat) : Int) := tmod_nat up 1048577
  have hA1 : ua % 9223372036854775808 ≤ 9223372036854775807 := by omega
  have hP1 : up % 1048577 ≤ 1048576 := by omega
  rw [← ea] at hA
  rw [← ep] at hP
  generalize ua % 9223372036854775808 = a at hA hA1
  generalize up % 1048577 = p at hP hP1
  obtain ⟨hQ, hQb⟩ := wrapQ a p hA1 hP1
  have hO := fun w => of_call p a hA1 hP1 w
  generalize (a * p + 500000) / 1000000 = Q at hQ hQb hO
  exact exact_core aR pR (a : Int) (p : Int) (Q : Int) hA (by omega) (by omega) hP (by omega) (by omega) (back_wrap Q hQb) hQ w hO
end Go.Proofs.Ybulkgdi
