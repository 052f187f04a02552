/-
  Seat b0346a: Div64 at the divisor 1,000,000, and Percent.Of: floor((a * p + 500000) / 1000000).
-/
import Derived.Test.YbulkgdiOf
namespace Go.Proofs.Ybulkgdi
open Go.RowKit Go.Lib

theorem V_form (U q1 rh un1 : Nat) (hU : U = q1 * 4096000000 + rh) (hr : rh < 4096000000) (h1 : un1 < 4294967296) :
    IntKind.u64.wrap (IntKind.u64.wrap (IntKind.u64.wrap ((U : Int) * 4294967296) + (un1 : Int)) - IntKind.u64.wrap ((q1 : Int) * 17592186044416000000)) = ((rh * 4294967296 + un1 : Nat) : Int) := by
  simp only [IntKind.wrap_u64, Int.emod_add_emod, Int.emod_sub_emod, Int.sub_emod_emod]
  have e : (U : Int) * 4294967296 + un1 - (q1 : Int) * 17592186044416000000 = ((rh * 4294967296 + un1 : Nat) : Int) := by
    rw [hU]; omega
  rw [e]
  have hb : rh * 4294967296 + un1 < 18446744073709551616 := by omega
  generalize rh * 4294967296 + un1 = V at hb
  omega

theorem split_of (a d : Nat) : a = a / d * d + a % d := by rw [Nat.mul_comm]; exact (Nat.div_add_mod a d).symm
theorem V_lt (rh un1 V : Nat) (hV : V = rh * 4294967296 + un1) (hr : rh < 4096000000) (h1 : un1 < 4294967296) : V < 17592186044416000000 := by omega

theorem tdiv_nat (a d : Nat) : (a : Int).tdiv (d : Int) = ((a / d : Nat) : Int) := by
  rw [Int.tdiv_eq_ediv_of_nonneg (by omega)]; simp

theorem wrapL (lo : Nat) : IntKind.u64.wrap ((lo : Int) * 17592186044416) = ((lo * 17592186044416 % 18446744073709551616 : Nat) : Int) := by
  rw [IntKind.wrap_u64]; omega

theorem div64 (hi lo : Nat) (h : hi < 1000000) (hl : lo < 18446744073709551616) (w : World) :
    Calls Yba.prog 8 #[.int .u64 (hi : Int), .int .u64 (lo : Int), .int .u64 1000000] w fun e w' => (∃ r : Int, e = .returned (.tuple #[.int .u64 (((hi * 18446744073709551616 + lo) / 1000000 : Nat) : Int), .int .u64 r])) ∧ ∃ q, w' = w.drewN q := by
  by_cases h0 : hi = 0
  · subst h0
    have := div64_zero lo hl w
    rw [Nat.zero_mul, Nat.zero_add]
    exact this
  · obtain ⟨U, hU⟩ : ∃ U, U = hi * 17592186044416 + lo / 1048576 := ⟨_, rfl⟩
    obtain ⟨L, hL⟩ : ∃ L, L = lo * 17592186044416 % 18446744073709551616 := ⟨_, rfl⟩
    have hL2 : L < 18446744073709551616 := by rw [hL]; exact Nat.mod_lt _ (by decide)
    have hU2 : U < 17592186044416000000 := by omega
    obtain ⟨un1, hun1⟩ : ∃ un1, un1 = L / 4294967296 := ⟨_, rfl⟩
    obtain ⟨un0, hun0⟩ : ∃ un0, un0 = L % 4294967296 := ⟨_, rfl⟩
    obtain ⟨q1, hq1⟩ : ∃ q1, q1 = U / 4096000000 := ⟨_, rfl⟩
    obtain ⟨rh, hrh⟩ : ∃ rh, rh = U % 4096000000 := ⟨_, rfl⟩
    obtain ⟨V, hV⟩ : ∃ V, V = rh * 4294967296 + un1 := ⟨_, rfl⟩
    obtain ⟨q0, hq0⟩ : ∃ q0, q0 = V / 4096000000 := ⟨_, rfl⟩
    obtain ⟨rh2, hrh2⟩ : ∃ rh2, rh2 = V % 4096000000 := ⟨_, rfl⟩
    have bL : L = un1 * 4294967296 + un0 := by rw [hun1, hun0]; exact split_of L 4294967296
    have bU : U = q1 * 4096000000 + rh := by rw [hq1, hrh]; exact split_of U 4096000000
    have bV : V = q0 * 4096000000 + rh2 := by rw [hq0, hrh2]; exact split_of V 4096000000
    have b1 : un1 < 4294967296 := by rw [hun1]; exact Nat.div_lt_of_lt_mul hL2
    have b0 : un0 < 4294967296 := by rw [hun0]; exact Nat.mod_lt _ (by decide)
    have br : rh < 4096000000 := by rw [hrh]; exact Nat.mod_lt _ (by decide)
    have br2 : rh2 < 4096000000 := by rw [hrh2]; exact Nat.mod_lt _ (by decide)
    have bq1 : q1 < 4294967296 := by rw [hq1]; exact Nat.div_lt_of_lt_mul hU2
    have hV2 : V < 17592186044416000000 := V_lt rh un1 V hV br b1
    have bq0 : q0 < 4294967296 := by rw [hq0]; exact Nat.div_lt_of_lt_mul hV2
    have hfin := div_two hi lo U L un1 un0 q1 rh V q0 rh2 hU hL bL b0 bU hV bV br2
    have eor : bits .or .u64 ((hi : Int) * 17592186044416) ((lo : Int) / 1048576) = (U : Int) := by rw [hU]; exact or_form hi lo h hl
    have eL : IntKind.u64.wrap ((lo : Int) * 17592186044416) = (L : Int) := by rw [hL]; exact wrapL lo
    have e0 : bits .and .u64 (L : Int) 4294967295 = (un0 : Int) := by rw [hun0]; exact Mul64.maskN L hL2
    have eV := V_form U q1 rh un1 bU br b1
    rw [← hV] at eV
    have et1 : (U : Int).tdiv 4096000000 = (q1 : Int) := by rw [hq1]; exact tdiv_nat U 4096000000
    have et0 : (V : Int).tdiv 4096000000 = (q0 : Int) := by rw [hq0]; exact tdiv_nat V 4096000000
    have hc := div64_core (hi : Int) (lo : Int) (U : Int) (L : Int) (un1 : Int) (un0 : Int) (q1 : Int) (rh : Int) (V : Int) (q0 : Int) (rh2 : Int) (by omega) (by omega) eor eL (by omega) (by omega) (by omega) e0 (by omega) (by omega) et1 (by omega) (by omega) (by omega) (by omega) (by omega) eV et0 (by omega) (by omega) (by omega) (by omega) (by omega) w
    rw [hfin]
    have ec : ((q1 * 4294967296 + q0 : Nat) : Int) = (q1 : Int) * 4294967296 + (q0 : Int) := by omega
    rw [ec]
    exact hc

theorem of_core (p a H Lo S C Q : Int) (ha : 0 ≤ a) (ha2 : a ≤ 9223372036854775807) (hp : 0 ≤ p) (hp2 : p ≤ 1048576) (hH : 0 ≤ H + C) (hH2 : H + C < 1000000) (w : World)
    (hM : ∀ w, Calls Yba.prog 6 #[.int .u64 a, .int .u64 p] w fun e w' => e = .returned (.tuple #[.int .u64 H, .int .u64 Lo]) ∧ w' = w)
    (hA : ∀ w, (callFunc 7 #[.int .u64 Lo, .int .u64 500000, .int .u64 0]).run Yba.prog w = .ok (.value (.tuple #[.int .u64 S, .int .u64 C])) w)
    (hD : ∀ w, Calls Yba.prog 8 #[.int .u64 (H + C), .int .u64 S, .int .u64 1000000] w fun e w' => (∃ r : Int, e = .returned (.tuple #[.int .u64 Q, .int .u64 r])) ∧ ∃ q, w' = w.drewN q) :
    Calls Yba.prog 5 #[.int .i64 p, .int .i64 a] w fun e w' => e = .returned (.int .i64 (wrap64 Q)) ∧ ∃ q, w' = w.drewN q := by
  go_enter Yba.func5, Yba.ntmps5
  go_wp2_with (first | (go_at_call 6; refine (hM _).mono ?_; rintro e w' ⟨rfl, rfl⟩) | (go_at_call 8; refine (hD _).mono ?_; rintro e w' ⟨⟨r, rfl⟩, q, rfl⟩))
  go_ret
  exact ⟨rfl, _, rfl⟩

theorem hi_carry (m H Lo S C : Nat) (hm : m < 9671406556917033397649408) (hH : H = m / 18446744073709551616) (hLo : Lo = m % 18446744073709551616) (hS : S = (Lo + 500000) % 18446744073709551616) (hC : C = (Lo + 500000) / 18446744073709551616) :
    H + C < 1000000 ∧ (H + C) * 18446744073709551616 + S = m + 500000 := by
  have h1 : m = H * 18446744073709551616 + Lo := by rw [hH, hLo]; exact split_of m _
  have h2 : Lo + 500000 = C * 18446744073709551616 + S := by rw [hC, hS]; exact split_of (Lo + 500000) _
  have h3 : H < 524288 := by rw [hH]; exact Nat.div_lt_of_lt_mul hm
  have h4 : Lo < 18446744073709551616 := by rw [hLo]; exact Nat.mod_lt _ (by decide)
  have h5 : C < 2 := by rw [hC]; exact Nat.div_lt_of_lt_mul (by omega)
  refine ⟨by omega, ?_⟩
  rw [Nat.add_mul, Nat.add_assoc, ← h2, ← Nat.add_assoc, ← h1]

/-- Percent.Of. -/
theorem of_call (p a : Nat) (ha : a ≤ 9223372036854775807) (hp : p ≤ 1048576) (w : World) :
    Calls Yba.prog 5 #[.int .i64 (p : Int), .int .i64 (a : Int)] w fun e w' => e = .returned (.int .i64 (wrap64 (((a * p + 500000) / 1000000 : Nat) : Int))) ∧ ∃ q, w' = w.drewN q := by
  have hm : a * p < 9671406556917033397649408 := Nat.lt_of_le_of_lt (Nat.mul_le_mul ha hp) (by decide)
  have hS2 : (a * p % 18446744073709551616 + 500000) % 18446744073709551616 < 18446744073709551616 := Nat.mod_lt _ (by decide)
  obtain ⟨h1, h2⟩ := hi_carry (a * p) _ _ _ _ hm rfl rfl rfl rfl
  have hmul := fun w => mul64 a p (by omega) (by omega) w
  have hadd := fun w => add64 (a * p % 18446744073709551616) 500000 w
  generalize a * p / 18446744073709551616 = H at h1 h2 hmul
  generalize a * p % 18446744073709551616 = Lo at h1 h2 hmul hadd hS2
  generalize (Lo + 500000) % 18446744073709551616 = S at h1 h2 hadd hS2
  generalize (Lo + 500000) / 18446744073709551616 = C at h1 h2 hadd
  have hdiv := fun w => div64 (H + C) S h1 hS2 w
  rw [h2] at hdiv
  generalize (a * p + 500000) / 1000000 = Q at hdiv
  have ec : ((H + C : Nat) : Int) = (H : Int) + (C : Int) := by omega
  rw [ec] at hdiv
  exact of_core (p : Int) (a : Int) (H : Int) (Lo : Int) (S : Int) (C : Int) (Q : Int) (by omega) (by omega) (by omega) (by omega) (by omega) (by omega) w hmul hadd hdiv
end Go.Proofs.Ybulkgdi
