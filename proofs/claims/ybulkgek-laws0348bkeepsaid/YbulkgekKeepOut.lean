/-
  Seat b0348a: the ways on which 'LawS0348BKeep' answers at once, walked.
-/
import Derived.Test.YbulkgekMake
namespace Go.Proofs.Ybulkgek
open Go.RowKit Go.Lib

theorem keep_long (dur now d sel r0 : Int) (a : Option Addr) (len cap : Nat) (ao : Option Addr) (no co : Nat) (w : World) (hl : (1024 : Int) < (len : Int)) :
    Calls Yba.prog 4 #[.int .i64 dur, .int .i64 now, .int .i64 d, .int .u64 r0, .slice a len cap, .int .u64 sel, .slice ao no co] w fun e w' => e = .returned (.bool true) ∧ w' = w := by
  go_enter Yba.func4, Yba.ntmps4
  go_wp2
  go_ret
  exact ⟨rfl, rfl⟩

theorem keep_many (dur now d sel r0 : Int) (a : Option Addr) (len cap : Nat) (ao : Option Addr) (no co : Nat) (w : World) (hl : (len : Int) ≤ 1024) (hno : (256 : Int) < (no : Int)) :
    Calls Yba.prog 4 #[.int .i64 dur, .int .i64 now, .int .i64 d, .int .u64 r0, .slice a len cap, .int .u64 sel, .slice ao no co] w fun e w' => e = .returned (.bool true) ∧ w' = w := by
  go_enter Yba.func4, Yba.ntmps4
  go_wp2
  go_ret
  exact ⟨rfl, rfl⟩

theorem keep_neg (dur now d sel r0 : Int) (a : Option Addr) (len cap : Nat) (ao : Option Addr) (no co : Nat) (w : World) (hl : (len : Int) ≤ 1024) (hno : (no : Int) ≤ 256) (hn : now < 0) :
    Calls Yba.prog 4 #[.int .i64 dur, .int .i64 now, .int .i64 d, .int .u64 r0, .slice a len cap, .int .u64 sel, .slice ao no co] w fun e w' => e = .returned (.bool true) ∧ w' = w := by
  go_enter Yba.func4, Yba.ntmps4
  go_wp2
  go_ret
  exact ⟨rfl, rfl⟩

theorem keep_past (dur now d sel r0 : Int) (a : Option Addr) (len cap : Nat) (ao : Option Addr) (no co : Nat) (w : World) (hl : (len : Int) ≤ 1024) (hno : (no : Int) ≤ 256) (hn : 0 ≤ now) (hp : dur < now) :
    Calls Yba.prog 4 #[.int .i64 dur, .int .i64 now, .int .i64 d, .int .u64 r0, .slice a len cap, .int .u64 sel, .slice ao no co] w fun e w' => e = .returned (.bool true) ∧ w' = w := by
  go_enter Yba.func4, Yba.ntmps4
  go_wp2
  go_ret
  exact ⟨rfl, rfl⟩
end Go.Proofs.Ybulkgek
