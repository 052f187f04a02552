/-
  Seat b0346a: 'LawS0346BShape', walked.
-/
import Derived.Test.YbulkgdiExact
import Derived.RowKit3
namespace Go.Proofs.Ybulkgdi
open Go.RowKit Go.Lib

abbrev OfIs (p a r : Int) : Prop := ∀ w, Calls Yba.prog 5 #[.int .i64 p, .int .i64 a] w fun e w' => e = .returned (.int .i64 r) ∧ ∃ q, w' = w.drewN q

set_option maxHeartbeats 400000 in
theorem shape_core (aR pR A P R M R1 : Int) (hA : (IntKind.u64.wrap aR).tmod 1000000000000000 = A) (hA0 : 0 ≤ A) (hA1 : A ≤ 999999999999999) (hP : (IntKind.u64.wrap pR).tmod 1000001 = P) (hP0 : 0 ≤ P) (hP1 : P < 1000000)
    (hR0 : 0 ≤ R) (hR1 : R ≤ A) (hM : (A + 1).tdiv 2 = M) (hM0 : 0 ≤ M) (hM1 : M ≤ 999999999999999) (hR2 : R ≤ R1) (w : World)
    (o1 : Hid (OfIs P A R)) (o2 : Hid (OfIs 0 A 0)) (o3 : Hid (OfIs 1000000 A A)) (o4 : Hid (OfIs 500000 A M)) (o5 : Hid (OfIs (P + 1) A R1)) :
    Calls Yba.prog 4 #[.int .i64 aR, .int .i64 pR] w fun e w' => e = .returned (.bool true) ∧ Grown w w' := by
  go_enter Yba.func4, Yba.ntmps4
  repeat (first | go_values | go_step)
  refine (o1.out _).mono ?_
  rintro e w' ⟨rfl, q, rfl⟩
  dsimp only
  repeat (first | go_values | go_step)
  refine (o2.out _).mono ?_
  rintro e w' ⟨rfl, q2, rfl⟩
  dsimp only
  repeat (first | go_values | go_step)
  refine (o3.out _).mono ?_
  rintro e w' ⟨rfl, q3, rfl⟩
  dsimp only
  repeat (first | go_values | go_step)
  refine (o4.out _).mono ?_
  rintro e w' ⟨rfl, q4, rfl⟩
  dsimp only
  repeat (first | go_values | go_step)
  refine (o5.out _).mono ?_
  rintro e w' ⟨rfl, q5, rfl⟩
  dsimp only
  repeat (first | go_values | go_step)
  go_ret
  exact ⟨rfl, Grown.refl w⟩

set_option maxHeartbeats 400000 in
theorem shape_core2 (aR pR A R M : Int) (hA : (IntKind.u64.wrap aR).tmod 1000000000000000 = A) (hA0 : 0 ≤ A) (hA1 : A ≤ 999999999999999) (hP : (IntKind.u64.wrap pR).tmod 1000001 = 1000000)
    (hR0 : 0 ≤ R) (hR1 : R ≤ A) (hM : (A + 1).tdiv 2 = M) (hM0 : 0 ≤ M) (hM1 : M ≤ 999999999999999) (w : World)
    (o1 : Hid (OfIs 1000000 A R)) (o2 : Hid (OfIs 0 A 0)) (o3 : Hid (OfIs 1000000 A A)) (o4 : Hid (OfIs 500000 A M)) :
    Calls Yba.prog 4 #[.int .i64 aR, .int .i64 pR] w fun e w' => e = .returned (.bool true) ∧ Grown w w' := by
  go_enter Yba.func4, Yba.ntmps4
  repeat (first | go_values | go_step)
  refine (o1.out _).mono ?_
  rintro e w' ⟨rfl, q, rfl⟩
  dsimp only
  repeat (first | go_values | go_step)
  refine (o2.out _).mono ?_
  rintro e w' ⟨rfl, q2, rfl⟩
  dsimp only
  repeat (first | go_values | go_step)
  refine (o3.out _).mono ?_
  rintro e w' ⟨rfl, q3, rfl⟩
  dsimp only
  repeat (first | go_values | go_step)
  refine (o4.out _).mono ?_
  rintro e w' ⟨rfl, q4, rfl⟩
  dsimp only
  repeat (first | go_values | go_step)
  go_ret
  exact ⟨rfl, Grown.refl w⟩
end Go.Proofs.Ybulkgdi
