/-
  Seat b0348a: zzs0348bcount, walked.
-/
import Derived.Test.YbulkgekUp
namespace Go.Proofs.Ybulkgek
open Go.RowKit Go.Lib

theorem count_step (cs : List C3) (c : C3) (k : Nat) (hk : k < cs.length) : (cs.take (k + 1)).count c = (cs.take k).count c + if cs[k] = c then 1 else 0 := by
  rw [List.take_succ_eq_append_getElem hk, List.count_append, List.count_singleton]
  congr 1
  by_cases e : cs[k] = c <;> simp [e]

theorem count_hit {cs : List C3} {k c : Nat} {x y : C3} (hk : cs[k]? = some x) (hx : true = decide (x = y)) (hc : c = (cs.take k).count y) : c + 1 = (cs.take (k + 1)).count y := by
  obtain ⟨h, rfl⟩ := List.getElem?_eq_some_iff.1 hk
  rw [count_step cs y k h, if_pos (of_decide_eq_true hx.symm), hc]
theorem count_miss {cs : List C3} {k c : Nat} {x y : C3} (hk : cs[k]? = some x) (hx : false = decide (x = y)) (hc : c = (cs.take k).count y) : c = (cs.take (k + 1)).count y := by
  obtain ⟨h, rfl⟩ := List.getElem?_eq_some_iff.1 hk
  rw [count_step cs y k h, if_neg (of_decide_eq_false hx.symm), hc, Nat.add_zero]

theorem h63 : Yba.prog.underlying 63 = some (.struct (Yba.prog.fieldsOf 63)) := by kernel_rfl
theorem s63 : Yba.prog.stoodInHeld 63 = false := by kernel_rfl
theorem f63 : (Yba.prog.fieldsOf 63).toList.map (fun f => (f.name, f.type, f.offset)) = [("at", 28, 0), ("terminal", 3, 1), ("run", 22, 2)] := by kernel_rfl
theorem list3 {α β : Type} {l : List α} {f : α → β} {a b c : β} (h : l.map f = [a, b, c]) : ∃ x y z, l = [x, y, z] ∧ f x = a ∧ f y = b ∧ f z = c := by
  match l, h with
  | [x, y, z], h =>
    simp at h
    exact ⟨x, y, z, rfl, h⟩

set_option maxRecDepth 20000 in
theorem eql63 (a t r a' t' r' : Int) (w : World) : (binOp .eql 63 (.agg #[.int .i64 a, .int .i64 t, .int .u64 r]) (.agg #[.int .i64 a', .int .i64 t', .int .u64 r'])).run Yba.prog w = .ok (.bool (decide (((a, t, r) : C3) = (a', t', r')))) w := by
  obtain ⟨x, y, z, hl, hx, hy, hz⟩ := list3 f63
  simp only [Prod.mk.injEq] at hx hy hz
  have e1 : ∀ w a b, (Op.equalIn 9999 28 (.int .i64 a) (.int .i64 b)).run Yba.prog w = .ok (a == b) w := fun w a b => run_equalIn_int w 9998 28 .i64 .i64 a b Yba.underlying28
  have e2 : ∀ w a b, (Op.equalIn 9999 3 (.int .i64 a) (.int .i64 b)).run Yba.prog w = .ok (a == b) w := fun w a b => run_equalIn_int w 9998 3 .i64 .i64 a b Yba.underlying3
  have e3 : ∀ w a b, (Op.equalIn 9999 22 (.int .u64 a) (.int .u64 b)).run Yba.prog w = .ok (a == b) w := fun w a b => run_equalIn_int w 9998 22 .u64 .u64 a b Yba.underlying22
  rw [run_eql_struct, run_equalIn_struct _ 9999 63 _ _ h63 s63, hl]
  simp [Op.eqFields, hx, hy, hz, part, isAgg, sizeOf, typeInfo, e1, e2, e3]
  by_cases c1 : a = a' <;> by_cases c2 : t = t' <;> by_cases c3 : r = r' <;> simp [c1, c2, c3]

set_option maxRecDepth 20000 in
set_option maxHeartbeats 400000 in
theorem count9 (B g cp n : Nat) (cs : List C3) (ca ct cr : Int) (w : World) (h : own3 w B g cp n cs) (hn : cs.length = n) (hm : n ≤ 1000) :
    Calls Yba.prog 9 #[.slice (some ⟨g, 0, none⟩) n cp, .agg #[.int .i64 ca, .int .i64 ct, .int .u64 cr]] w fun e w' => e = .returned (.int .i64 ((cs.count (ca, ct, cr) : Nat) : Int)) ∧ w.grownBy w' none := by
  have HH : Hid (own3 (w.alloc (.cells #[.int .i64 ca, .int .i64 ct, .int .u64 cr] 63)) B g cp n cs) := World.ownsRow.alloc h _
  clear h
  go_enter Yba.func9, Yba.ntmps9
  go_wp2_with fail
  go_loopg [5, 6] n (fun gh v5 v6 wr => ∃ k c : Nat, v5 = .int .i64 (c : Nat) ∧ v6 = .int .i64 (k : Nat) ∧ c ≤ k ∧ k ≤ n ∧ gh = n - k ∧ c = (cs.take k).count (ca, ct, cr) ∧ ∃ q, wr = (w.alloc (.cells #[.int .i64 ca, .int .i64 ct, .int .u64 cr] 63)).drewN q)
  case atStart => exact ⟨0, 0, rfl, rfl, Nat.le_refl _, Nat.zero_le _, rfl, by simp, 0, rfl⟩
  case round =>
    obtain ⟨k, c, rfl, rfl, hck, hkn, hgh, hcc, q, rfl⟩ := hrel
    have HC : Hid (c = (cs.take k).count (ca, ct, cr)) := hcc
    clear hcc
    by_cases hlt : k < n
    · obtain ⟨a, t, r, hk, c0, c1, c2⟩ := HH.out.get hn k hlt
      have hd : decide (k < n) = true := decide_eq_true hlt
      have hki : (k : Int) < (n : Int) := by omega
      have HK : Hid (cs[k]? = some (a, t, r)) := hk
      clear hk
      obtain ⟨b, hb⟩ : ∃ b, b = decide (((a, t, r) : C3) = (ca, ct, cr)) := ⟨_, rfl⟩
      have hE : ∀ w, (binOp .eql 63 (.agg #[.int .i64 a, .int .i64 t, .int .u64 r]) (.agg #[.int .i64 ca, .int .i64 ct, .int .u64 cr])).run Yba.prog w = .ok (.bool b) w := fun w => by rw [hb]; exact eql63 a t r ca ct cr w
      have HB : Hid (b = decide (((a, t, r) : C3) = (ca, ct, cr))) := hb
      clear hb
      go_wp2_with fail
      go_quiet (fail)
      cases b with
      | true =>
        go_wp2_with fail
        go_roundg (n - (k + 1))
        case measure => omega
        case rel => exact ⟨k + 1, c + 1, rfl, rfl, by omega, by omega, rfl, count_hit HK.out HB.out HC.out, _, rfl⟩
      | false =>
        go_wp2_with fail
        go_roundg (n - (k + 1))
        case measure => omega
        case rel => exact ⟨k + 1, c, rfl, rfl, by omega, by omega, rfl, count_miss HK.out HB.out HC.out, _, rfl⟩
    · obtain rfl : k = n := by omega
      go_wp2_with fail
      go_ret
      have hc := HC.out
      rw [List.take_of_length_le (by omega)] at hc
      exact ⟨congrArg (fun m : Nat => Ending.returned (.int .i64 (m : Int))) hc, grownBy_drewN (World.grownBy_alloc w _ none) q⟩
end Go.Proofs.Ybulkgek
