/-
  Seat b0346a: Percent.Of by math/bits' Mul64, Add64, Div64 (at the divisor 1,000,000), walked.
-/
import Derived.Test.YbulkgdiProg
import Derived.WalkKit
import Derived.Lib.Mul64
import Derived.Laws.Bits64b
import Derived.Laws.Externs
import Derived.Shelf.Bits.Mul64
import Derived.Shelf.Strconv.Itoa0
import Derived.BigQuiet
import Derived.Deep.QuietTactic
import Derived.Laws.BitsAllLaws
import Derived.WalkLawsBesides
import Derived.Below
namespace Go.Proofs.Ybulkgdi
open Go.RowKit Go.Lib

set_option maxHeartbeats 1000000 in
theorem mul64 (x y : Nat) (hx : x < 18446744073709551616) (hy : y < 18446744073709551616) (w : World) :
    Calls Yba.prog 6 #[.int .u64 x, .int .u64 y] w fun e w' => e = .returned (.tuple #[.int .u64 ((x * y / 18446744073709551616 : Nat) : Int), .int .u64 ((x * y % 18446744073709551616 : Nat) : Int)]) ∧ w' = w := by
  obtain ⟨bd, bt, bw, hhi⟩ := Lib.mul64_hi x y hx hy
  have ba := Lib.half_mul_le (a := x / 4294967296) (b := y / 4294967296) (by omega) (by omega)
  have bb := Lib.half_mul_le (a := x / 4294967296) (b := y % 4294967296) (by omega) (by omega)
  have bc := Lib.half_mul_le (a := x % 4294967296) (b := y / 4294967296) (by omega) (by omega)
  have ba' : x / 4294967296 * (y / 4294967296) < 18446744073709551616 := by omega
  have bb' : x / 4294967296 * (y % 4294967296) < 18446744073709551616 := by omega
  have bc' : x % 4294967296 * (y / 4294967296) < 18446744073709551616 := by omega
  have bh1 : x / 4294967296 * (y / 4294967296) + (x / 4294967296 * (y % 4294967296) + x % 4294967296 * (y % 4294967296) / 4294967296) / 4294967296 < 18446744073709551616 := by omega
  have bh : x / 4294967296 * (y / 4294967296) + (x / 4294967296 * (y % 4294967296) + x % 4294967296 * (y % 4294967296) / 4294967296) / 4294967296 + ((x / 4294967296 * (y % 4294967296) + x % 4294967296 * (y % 4294967296) / 4294967296) % 4294967296 + x % 4294967296 * (y / 4294967296)) / 4294967296 < 18446744073709551616 := by omega
  go_enter Yba.func6, Yba.ntmps6
  go_wp2
  simp only [Mul64.maskN x hx, Mul64.maskN y hy, Mul64.divN, Mul64.mulN, Mul64.addN, Mul64.wrapN _ bd, Mul64.wrapN _ bb', Mul64.wrapN _ bt, Mul64.maskN _ bt, Mul64.wrapN _ bc', Mul64.wrapN _ bw, Mul64.wrapN _ ba', Mul64.wrapN _ bh1, Mul64.wrapN _ bh, Mul64.wrapM (x * y)]
  rw [hhi]
  go_ret2
  exact ⟨rfl, rfl⟩

theorem add64 (x y : Nat) (w : World) :
    (callFunc 7 #[.int .u64 x, .int .u64 y, .int .u64 0]).run Yba.prog w =
      .ok (.value (.tuple #[.int .u64 (((x + y) % 18446744073709551616 : Nat) : Int), .int .u64 (((x + y) / 18446744073709551616 : Nat) : Int)])) w := by
  rw [run_callFunc_extern Yba.func7 (by kernel_rfl) (by kernel_rfl) (by kernel_rfl) (e := add64Entry) (by kernel_rfl)]
  rw [run_add64 x y 0 (by omega) (by omega) (by omega) (by omega)]
  simp only [Result.andThen]
  congr 5 <;> omega

open Go.Shelf in
def Yba.lays129_ren : Go.Shelf.Ren := ⟨fun | 129 => 10 | n => n, fun | 53 => 23 | 3 => 3 | 4 => 4 | 46 => 30 | 5 => 5 | 9 => 9 | n => n, fun | n => n⟩
open Go.Shelf in
theorem Yba.lays129 : Go.Proofs.Lays.n129 Yba.prog Yba.lays129_ren := {
  mixed := by kernel_rfl
  f129 := Yba.func10.trans (congrArg some (by kernel_rfl))
  t3 := Yba.underlying3
  a3 := Yba.isAgg3
  z3 := Yba.sizeOf3
  v3 := Yba.zeroValue3
  t4 := Yba.underlying4
  a4 := Yba.isAgg4
  z4 := Yba.sizeOf4
  v4 := Yba.zeroValue4
  t5 := Yba.underlying5
  a5 := Yba.isAgg5
  z5 := Yba.sizeOf5
  v5 := Yba.zeroValue5
  t9 := Yba.underlying9
  a9 := Yba.isAgg9
  z9 := Yba.sizeOf9
  v9 := Yba.zeroValue9
  t46 := Yba.underlying30
  a46 := Yba.isAgg30
  z46 := Yba.sizeOf30
  v46 := Yba.zeroValue30
  t53 := Yba.underlying23
  a53 := Yba.isAgg23
  z53 := Yba.sizeOf23
  v53 := Yba.zeroValue23 }

theorem len64 (w : World) : Calls Yba.prog 10 #[.int .u64 1000000] w fun e w' => e = .returned (.int .i64 20) ∧ w' = w := by
  have h := Any.bits_Len64 Yba.lays129 1000000 w (by decide) (by decide)
  have e : Lib.bitLen (1000000 : Int).toNat = 20 := by decide +kernel
  rw [e] at h
  exact h

theorem lead64 (w : World) : Calls Yba.prog 9 #[.int .u64 1000000] w fun e w' => e = .returned (.int .i64 44) ∧ w' = w := by
  go_enter Yba.func9, Yba.ntmps9
  go_wp2_with (go_at_call 10; refine (len64 _).mono ?_; rintro e w' ⟨rfl, rfl⟩)
  go_ret
  exact ⟨rfl, rfl⟩

theorem div64_zero (lo : Nat) (hlo : lo < 18446744073709551616) (w : World) :
    Calls Yba.prog 8 #[.int .u64 0, .int .u64 (lo : Int), .int .u64 1000000] w fun e w' => (∃ r : Int, e = .returned (.tuple #[.int .u64 ((lo / 1000000 : Nat) : Int), .int .u64 r])) ∧ ∃ q, w' = w.drewN q := by
  have hl : (lo : Int) < 18446744073709551616 := by omega
  have h0 : (0 : Int) ≤ lo := by omega
  go_enter Yba.func8, Yba.ntmps8
  go_wp2
  go_quiet (fail)
  go_wp2
  go_ret2
  exact ⟨⟨_, rfl⟩, _, rfl⟩

set_option maxRecDepth 20000 in
set_option maxHeartbeats 400000 in
theorem div64_core (hi lo U L un1 un0 q1 rh V q0 rh2 : Int) (h1 : 0 < hi) (h2 : hi < 1000000)
    (hor : bits .or .u64 (hi * 17592186044416) (lo / 1048576) = U)
    (hL : IntKind.u64.wrap (lo * 17592186044416) = L) (hun1 : L / 4294967296 = un1) (hun1a : 0 ≤ un1) (hun1b : un1 < 4294967296)
    (hun0 : bits .and .u64 L 4294967295 = un0) (hun0a : 0 ≤ un0) (hun0b : un0 < 4294967296)
    (hq1 : U.tdiv 4096000000 = q1) (hq1a : 0 ≤ q1) (hq1b : q1 < 4294967296) (hrh : U - q1 * 4096000000 = rh) (hrha : 0 ≤ rh) (hrhb : rh < 4096000000)
    (hV : IntKind.u64.wrap (IntKind.u64.wrap (IntKind.u64.wrap (U * 4294967296) + un1) - IntKind.u64.wrap (q1 * 17592186044416000000)) = V)
    (hq0 : V.tdiv 4096000000 = q0) (hq0a : 0 ≤ q0) (hq0b : q0 < 4294967296) (hrh2 : V - q0 * 4096000000 = rh2) (hrh2a : 0 ≤ rh2) (hrh2b : rh2 < 4096000000) (w : World) :
    Calls Yba.prog 8 #[.int .u64 hi, .int .u64 lo, .int .u64 1000000] w fun e w' => (∃ r : Int, e = .returned (.tuple #[.int .u64 (q1 * 4294967296 + q0), .int .u64 r])) ∧ ∃ q, w' = w.drewN q := by
  have h4 : (hi == 0) = false := by simp; omega
  have hy : bits .and .u64 17592186044416000000 4294967295 = 0 := by decide +kernel
  go_enter Yba.func8, Yba.ntmps8
  go_wp2_with (go_at_call 9; refine (lead64 _).mono ?_; rintro e w' ⟨rfl, rfl⟩)
  refine wp_loop_rounds 1 ?_
  rw [rounds_succ]
  go_wp2
  refine wp_loop_rounds 1 ?_
  rw [rounds_succ]
  go_wp2
  go_ret2
  exact ⟨⟨_, rfl⟩, 0, rfl⟩

theorem or_form (hi lo : Nat) (h : hi < 1000000) (hl : lo < 18446744073709551616) : bits .or .u64 ((hi : Int) * 17592186044416) ((lo : Int) / 1048576) = ((hi * 17592186044416 + lo / 1048576 : Nat) : Int) := by
  have e1 : (hi : Int) * 17592186044416 = ((hi * 17592186044416 : Nat) : Int) := by omega
  have e2 : (lo : Int) / 1048576 = ((lo / 1048576 : Nat) : Int) := by omega
  have hb : lo / 1048576 < 2 ^ 44 := by omega
  have e3 : hi * 17592186044416 ||| lo / 1048576 = hi * 17592186044416 + lo / 1048576 := by
    have := Nat.two_pow_add_eq_or_of_lt hb hi
    rw [show (2 : Nat) ^ 44 = 17592186044416 from rfl, Nat.mul_comm] at this
    exact this.symm
  rw [e1, e2, bits_or_u64_nat _ _ (by omega) (by omega), e3]

theorem quot_of (N s d D Q R : Nat) (hs : 0 < s) (hD : D = d * s) (h : N * s = Q * D + R) (hR : R < D) : N / d = Q := by
  rw [← Nat.mul_div_mul_right N d hs, ← hD, h, Nat.add_comm, Nat.add_mul_div_right _ _ (Nat.lt_of_le_of_lt (Nat.zero_le _) hR), Nat.div_eq_of_lt hR, Nat.zero_add]

theorem lin_two (U L un1 un0 q1 rh V q0 rh2 : Nat) (h1 : L = un1 * 4294967296 + un0)
    (hq1 : U = q1 * 4096000000 + rh) (hV : V = rh * 4294967296 + un1) (hq0 : V = q0 * 4096000000 + rh2) :
    U * 18446744073709551616 + L = (q1 * 4294967296 + q0) * 17592186044416000000 + (rh2 * 4294967296 + un0) := by
  have a : U * 4294967296 + un1 = q1 * 4096000000 * 4294967296 + V := by
    rw [hq1, Nat.add_mul, Nat.add_assoc, ← hV]
  have b : U * 18446744073709551616 + L = (U * 4294967296 + un1) * 4294967296 + un0 := by
    rw [h1, Nat.add_mul, Nat.mul_assoc, Nat.add_assoc]
  rw [b, a, hq0, Nat.add_mul, Nat.add_mul, Nat.add_mul, Nat.mul_assoc, Nat.mul_assoc, Nat.mul_assoc, Nat.mul_assoc, Nat.add_assoc, Nat.add_assoc]
  simp only [Nat.reduceMul, Nat.add_assoc]

/-- The school's two steps at the divisor 1,000,000 (shifted by 44). -/
theorem div_two (hi lo U L un1 un0 q1 rh V q0 rh2 : Nat) (hU : U = hi * 17592186044416 + lo / 1048576) (hL : L = lo * 17592186044416 % 18446744073709551616) (h1 : L = un1 * 4294967296 + un0) (h0 : un0 < 4294967296)
    (hq1 : U = q1 * 4096000000 + rh) (hV : V = rh * 4294967296 + un1) (hq0 : V = q0 * 4096000000 + rh2) (hr : rh2 < 4096000000) :
    (hi * 18446744073709551616 + lo) / 1000000 = q1 * 4294967296 + q0 := by
  have a1 : (hi * 18446744073709551616 + lo) * 17592186044416 = U * 18446744073709551616 + L := by omega
  have a2 : (hi * 18446744073709551616 + lo) * 17592186044416 = (q1 * 4294967296 + q0) * 17592186044416000000 + (rh2 * 4294967296 + un0) := by
    rw [a1]; exact lin_two U L un1 un0 q1 rh V q0 rh2 h1 hq1 hV hq0
  have a3 : rh2 * 4294967296 + un0 < 17592186044416000000 := by omega
  exact quot_of _ 17592186044416 1000000 17592186044416000000 _ _ (by omega) rfl a2 a3
end Go.Proofs.Ybulkgdi
