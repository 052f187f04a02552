/-
  Seat b0346a: Percent.Of's five values for the law of the shape; the walk whatever the input.
-/
import Derived.Test.YbulkgdiShape
namespace Go.Proofs.Ybulkgdi
open Go.RowKit Go.Lib

theorem of_val (p a r : Nat) (ha : a ≤ 999999999999999) (hp : p ≤ 1048576) (hr : (a * p + 500000) / 1000000 = r) (hr2 : r ≤ a) : OfIs (p : Int) (a : Int) (r : Int) := fun w => by
  have h := of_call p a (by omega) hp w
  rw [hr] at h
  have e : wrap64 (r : Int) = (r : Int) := by unfold wrap64; omega
  rw [e] at h
  exact h

theorem r_zero (a : Nat) : (a * 0 + 500000) / 1000000 = 0 := by rw [Nat.mul_zero]
theorem r_full (a : Nat) : (a * 1000000 + 500000) / 1000000 = a := by omega
theorem r_half (a : Nat) : (a * 500000 + 500000) / 1000000 = (a + 1) / 2 := by omega
theorem r_mono (a p p' : Nat) (h : p ≤ p') : (a * p + 500000) / 1000000 ≤ (a * p' + 500000) / 1000000 :=
  Nat.div_le_div_right (Nat.add_le_add_right (Nat.mul_le_mul_left a h) _)

theorem shape_walk (aR pR : Int) (w : World) :
    Calls Yba.prog 4 #[.int .i64 aR, .int .i64 pR] w fun e w' => e = .returned (.bool true) ∧ Grown w w' := by
  obtain ⟨ua, ea, -⟩ := uwrap_nat aR
  obtain ⟨up, ep, -⟩ := uwrap_nat pR
  have hA : (ua : Int).tmod 1000000000000000 = ((ua % 1000000000000000 : Nat) : Int) := tmod_nat ua 1000000000000000
  have hP : (up : Int).tmod 1000001 = ((up % 1000001 : Nat) : Int) := tmod_nat up 1000001
  have hA1 : ua % 1000000000000000 ≤ 999999999999999 := by omega
  have hP1 : up % 1000001 ≤ 1000000 := by omega
  rw [← ea] at hA
  rw [← ep] at hP
  generalize ua % 1000000000000000 = a at hA hA1
  generalize up % 1000001 = p at hP hP1
  have hR1 : (a * p + 500000) / 1000000 ≤ a := by
    have := r_mono a p 1000000 hP1
    rw [r_full] at this
    exact this
  have hM : ((a : Int) + 1).tdiv 2 = (((a + 1) / 2 : Nat) : Int) := by
    have := tdiv_nat (a + 1) 2
    simpa using this
  have o2 := of_val 0 a 0 hA1 (by decide) (r_zero a) (Nat.zero_le _)
  have o3 := of_val 1000000 a a hA1 (by decide) (r_full a) (Nat.le_refl _)
  have hh : (a + 1) / 2 ≤ 999999999999999 := by omega
  have o4 : OfIs (500000 : Int) (a : Int) (((a + 1) / 2 : Nat) : Int) := fun w => by
    have h := of_call 500000 a (by omega) (by decide) w
    rw [r_half] at h
    have e : wrap64 (((a + 1) / 2 : Nat) : Int) = (((a + 1) / 2 : Nat) : Int) := by
      generalize (a + 1) / 2 = M at hh
      unfold wrap64; omega
    rw [e] at h
    exact h
  have o1 := of_val p a _ hA1 (by omega) rfl hR1
  generalize (a + 1) / 2 = M at hM o4 hh
  by_cases hlt : p < 1000000
  · have hmono := r_mono a p (p + 1) (Nat.le_succ p)
    have hR2 : (a * (p + 1) + 500000) / 1000000 ≤ a := by
      have := r_mono a (p + 1) 1000000 hlt
      rw [r_full] at this
      exact this
    have o5 := of_val (p + 1) a _ hA1 (by omega) rfl hR2
    have ec : ((p + 1 : Nat) : Int) = (p : Int) + 1 := by omega
    rw [ec] at o5
    generalize (a * (p + 1) + 500000) / 1000000 = R1 at hmono o5
    generalize (a * p + 500000) / 1000000 = R at hmono o1 hR1
    exact shape_core aR pR (a : Int) (p : Int) (R : Int) (M : Int) (R1 : Int) hA (by omega) (by omega) hP (by omega) (by omega) (by omega) (by omega) hM (by omega) (by omega) (by omega) w o1 o2 o3 o4 o5
  · obtain rfl : p = 1000000 := by omega
    generalize (a * 1000000 + 500000) / 1000000 = R at o1 hR1
    exact shape_core2 aR pR (a : Int) (R : Int) (M : Int) hA (by omega) (by omega) hP (by omega) (by omega) hM (by omega) (by omega) w o1 o2 o3 o4
end Go.Proofs.Ybulkgdi
