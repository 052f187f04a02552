/-
  Seat b0348a: zzs0348bkept, walked.
-/
import Derived.Test.YbulkgekMake
namespace Go.Proofs.Ybulkgek
open Go.RowKit Go.Lib

set_option maxRecDepth 20000 in
set_option maxHeartbeats 400000 in
theorem kept_call (B p T len cap : Nat) (r : Nat → Int) (dur now : Int) (pend : Value) (a : Option Addr) (w : World) (hl : (len : Int) ≤ 1024) (hS : Sim w B p T len r dur now pend) (hR : Runs B w a len r) :
    Calls Yba.prog 8 #[.pointer (some ⟨p, 0, none⟩), .int .i64 dur, .int .i64 now, .int .u64 (r 0), .slice a len cap] w fun e w' => e = .returned (.bool true) ∧ ∃ q, w' = w.drewN q := by
  have cd := hS.cd
  have ct := hS.ct
  have cn := hS.cn
  have c8 := hS.ts.cell (m := 0) (Nat.succ_pos _) (Nat.le_refl _)
  simp only [Nat.zero_mul, Nat.zero_add] at c8
  have HTS : Hid (Ts w B T len r (len + 1)) := hS.ts
  clear hS
  go_enter Yba.func8, Yba.ntmps8
  go_wp2
  go_loopg [11] len (fun g v wr => ∃ k : Nat, v = .int .i64 (k : Nat) ∧ k ≤ len ∧ g = len - k ∧ ∃ q, wr = w.drewN q)
  case atStart => exact ⟨0, rfl, Nat.zero_le _, rfl, 0, rfl⟩
  case round =>
    obtain ⟨k, rfl, hkl, hg, q, rfl⟩ := hrel
    by_cases hlt : k < len
    · rcases hR with h0 | ⟨b, off, rfl, hb, hc⟩
      · omega
      · have cb := hc k hlt
        have c9 := HTS.out.cell (m := k + 1) (by omega) (Nat.le_refl _)
        have hd : decide (k < len) = true := decide_eq_true hlt
        have hki : (k : Int) < (len : Int) := by omega
        clear hc
        go_wp2
        go_quiet (fail)
        go_wp2
        go_roundg (len - (k + 1))
        case measure => omega
        case rel => exact ⟨k + 1, rfl, hlt, rfl, _, rfl⟩
    · obtain rfl : k = len := by omega
      go_wp2
      go_ret
      exact ⟨rfl, _, rfl⟩
end Go.Proofs.Ybulkgek
