/-
  Seat b0348a: zzs0348bmake, zzs0348bat, walked.
-/
import Derived.Test.YbulkgekProg
import Derived.WalkKit
import Derived.BigQuiet
import Derived.Deep.QuietTactic
import Derived.Deep.LoopGhost
import Derived.WalkLawsBesides
import Derived.Below
import Derived.RowKit3
import Derived.OwnWalk
namespace Go.Proofs.Ybulkgek
open Go.RowKit Go.Lib

theorem at_late (dur now d : Int) (w : World) (h0 : 0 ≤ now) (h1 : now ≤ dur) (h2 : dur ≤ 9223372036854775807) (hd : dur - now < d) :
    Calls Yba.prog 7 #[.int .i64 dur, .int .i64 now, .int .i64 d] w fun e w' => e = .returned (.int .i64 (wrap64 (dur + 1))) ∧ w' = w := by
  go_enter Yba.func7, Yba.ntmps7
  go_wp2
  go_ret
  exact ⟨rfl, rfl⟩

theorem at_soon (dur now d : Int) (w : World) (h0 : 0 ≤ now) (h1 : now ≤ dur) (h2 : dur ≤ 9223372036854775807) (hd0 : -9223372036854775808 ≤ d) (hd : d ≤ dur - now) :
    Calls Yba.prog 7 #[.int .i64 dur, .int .i64 now, .int .i64 d] w fun e w' => e = .returned (.int .i64 (now + d)) ∧ w' = w := by
  go_enter Yba.func7, Yba.ntmps7
  go_wp2
  go_ret
  exact ⟨rfl, rfl⟩

theorem info59 : (Yba.prog.info? 59).map (fun i => (i.size, i.bytes)) = some (9, 104) := by kernel_rfl
theorem zero59 : ((Yba.prog.info? 59).bind (·.zero)).isSome = true := by kernel_rfl

/-- The terminals' row, the first k of them with their run. -/
def Ts (w : World) (B T n : Nat) (r : Nat → Int) (k : Nat) : Prop :=
  ∃ xs, w.ownsRow B 59 9 (.slice (some ⟨T, 0, none⟩) (n + 1) (n + 1)) (n + 1) xs ∧ ∀ m, m < k → xs[m * 9 + 8]? = some (.int .u64 (r m))

theorem Ts.any {w : World} {B T n k m : Nat} {r : Nat → Int} (h : Ts w B T n r k) (hm : m ≤ n) : ∃ v, w.cell? ⟨T, m * 9 + 8, none⟩ = some v := by
  obtain ⟨xs, h1, _⟩ := h
  rw [h1.cellAt _ (by omega)]
  have hl := h1.1
  exact ⟨xs[m * 9 + 8]'(by omega), List.getElem?_eq_getElem _⟩
theorem Ts.frozen {w : World} {B T n k : Nat} {r : Nat → Int} (h : Ts w B T n r k) (j : Nat) : w.frozen? ⟨T, j, none⟩ = false := by
  obtain ⟨xs, h1, _⟩ := h
  exact h1.frozenAt j
theorem Ts.cell {w : World} {B T n k m : Nat} {r : Nat → Int} (h : Ts w B T n r k) (hm : m < k) (hk : k ≤ n + 1) : w.cell? ⟨T, m * 9 + 8, none⟩ = some (.int .u64 (r m)) := by
  obtain ⟨xs, h1, h2⟩ := h
  rw [h1.cellAt _ (by omega), h2 m hm]
theorem Ts.put {w : World} {B T n k : Nat} {r : Nat → Int} (h : Ts w B T n r k) (hk : k ≤ n) : Ts (w.setCell ⟨T, k * 9 + 8, none⟩ (.int .u64 (r k))) B T n r (k + 1) := by
  obtain ⟨xs, h1, h2⟩ := h
  have hl := h1.1
  refine ⟨_, (h1.stored (k * 9 + 8) _).1, fun m hm => ?_⟩
  by_cases e : m = k
  · subst e; rw [List.getElem?_set_self (by omega)]
  · rw [List.getElem?_set_ne (by omega)]; exact h2 m (by omega)
theorem Ts.ge {w : World} {B T n k : Nat} {r : Nat → Int} (h : Ts w B T n r k) : B ≤ T := by
  obtain ⟨xs, h1, _⟩ := h
  exact (h1.lt T rfl).1
theorem Ts.kept {w w' : World} {row : Option Nat} {B T n k : Nat} {r : Nat → Int} (h : Ts w B T n r k) (hg : w.grownBy w' row) (hne : some T ≠ row) : Ts w' B T n r k := by
  obtain ⟨xs, h1, h2⟩ := h
  exact ⟨xs, h1.kept hg (.inr hne), h2⟩

/-- The runs that came in. -/
def Runs (B : Nat) (w : World) (a : Option Addr) (len : Nat) (r : Nat → Int) : Prop :=
  len = 0 ∨ ∃ b off, a = some ⟨b, off, none⟩ ∧ b < B ∧ ∀ k, k < len → w.cell? ⟨b, off + k, none⟩ = some (.int .u64 (r (k + 1)))

/-- What zzs0348bmake leaves. -/
structure Sim (w : World) (B p T n : Nat) (r : Nat → Int) (dur now : Int) (pend : Value) : Prop where
  ge : B ≤ p
  ne : p ≠ T
  cd : w.cell? ⟨p, 4, none⟩ = some (.int .i64 dur)
  ct : w.cell? ⟨p, 28, none⟩ = some (.slice (some ⟨T, 0, none⟩) (n + 1) (n + 1))
  cn : w.cell? ⟨p, 30, none⟩ = some (.int .i64 now)
  cp : w.cell? ⟨p, 31, none⟩ = some pend
  fp : w.frozen? ⟨p, 31, none⟩ = false
  ts : Ts w B T n r (n + 1)

set_option maxRecDepth 20000 in
set_option maxHeartbeats 400000 in
theorem make_call (dur now : Int) (r : Nat → Int) (a : Option Addr) (len cap : Nat) (w : World) (hl : (len : Int) ≤ 1024) (hR : Runs w.heap.size w a len r) :
    Calls Yba.prog 5 #[.int .i64 dur, .int .i64 now, .int .u64 (r 0), .slice a len cap] w fun e w' => ∃ T p, e = .returned (.pointer (some ⟨p, 0, none⟩)) ∧ Sim w' w.heap.size p T len r dur now (.slice none 0 0) ∧ Below w.heap.size w w' := by
  obtain ⟨i59, hi, h1⟩ := Option.map_eq_some_iff.1 info59
  have hsz : i59.size = 9 := congrArg Prod.fst h1
  have hby : i59.bytes = 104 := congrArg Prod.snd h1
  obtain ⟨z59, hz⟩ : ∃ z, i59.zero = some z := by
    have := zero59
    rw [hi] at this
    exact Option.isSome_iff_exists.1 this
  clear h1
  go_enter Yba.func5, Yba.ntmps5
  go_wp2_with (refine wpList_make_full _ rfl _ _ 42 rfl w.heap.size 59 i59 z59 9 Yba.underlying42 hi hz hsz _ _ _ _ (len + 1) rfl rfl (by omega) (by omega) (by rw [hby]; omega) (by unfold maxLen; omega) (Nat.le_refl _) ?_; intro w1 hown hgr; have ht : Ts w1 w.heap.size w.heap.size len r 0 := ⟨_, hown, fun m hm => absurd hm (Nat.not_lt_zero _)⟩; obtain ⟨v8, c8⟩ := ht.any (m := 0) (Nat.zero_le _); have f8 := ht.frozen 8; simp only [Nat.zero_mul, Nat.zero_add] at c8; have HT : Hid (Ts w1 w.heap.size w.heap.size len r 0) := ht; have HG : Hid (w.grownBy w1 none) := hgr; clear ht hgr hown)
  have hs1 := HG.out.size
  have HB1 : Hid (Below w.heap.size w w1) := (Below.refl _ w).grown HG.out (Nat.le_refl _) (fun r e => by cases e)
  have HT1 : Hid (Ts (w1.setCell ⟨w.heap.size, 8, none⟩ (.int .u64 (r 0))) w.heap.size w.heap.size len r 1) := by
    have h := HT.out.put (Nat.zero_le _)
    simp only [Nat.zero_mul, Nat.zero_add] at h
    exact h
  go_loopg [10] len (fun g v wr => ∃ k : Nat, v = .int .i64 (k : Nat) ∧ k ≤ len ∧ g = len - k ∧ Ts wr w.heap.size w.heap.size len r (k + 1) ∧ Below w.heap.size w wr)
  case atStart => exact ⟨0, rfl, Nat.zero_le _, rfl, HT1.out, HB1.out.setCell (p := ⟨w.heap.size, 8, none⟩) (Nat.le_refl _) _⟩
  case round =>
    obtain ⟨k, rfl, hkl, hg, hts, hbel⟩ := hrel
    have HTS : Hid (Ts wr w.heap.size w.heap.size len r (k + 1)) := hts
    have HBE : Hid (Below w.heap.size w wr) := hbel
    clear hts hbel
    by_cases hlt : k < len
    · rcases hR with h0 | ⟨b, off, rfl, hb, hc⟩
      · omega
      · have cb := (HBE.out.cell (p := ⟨b, off + k, none⟩) hb).trans (hc k hlt)
        obtain ⟨v9, c9⟩ := HTS.out.any (m := k + 1) hlt
        have f9 := HTS.out.frozen ((k + 1) * 9 + 8)
        have hd : decide (k < len) = true := decide_eq_true hlt
        have hki : (k : Int) < (len : Int) := by omega
        go_wp2
        go_roundg (len - (k + 1))
        case measure => omega
        case rel => exact ⟨k + 1, rfl, hlt, rfl, HTS.out.put hlt, HBE.out.setCell (p := ⟨w.heap.size, (k + 1) * 9 + 8, none⟩) (Nat.le_refl _) _⟩
    · obtain rfl : k = len := by omega
      go_wp2
      go_ret
      have hsz2 := HBE.out.size
      have hTl : w.heap.size < wr.heap.size := by
        obtain ⟨xs, h1, _⟩ := HTS.out
        exact (h1.lt _ rfl).2
      exact ⟨w.heap.size, wr.heap.size, rfl, ⟨hsz2, by omega, by simp, by simp, by simp, by simp, by simp, HTS.out.kept (World.grownBy_alloc wr _ none) (by simp)⟩, HBE.out.alloc hsz2 _⟩
end Go.Proofs.Ybulkgek
