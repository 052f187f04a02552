/-
  Seat b0338aD: '(*timeBlocks[int64]).all' and its closure: the iterator's contract.
-/
import Derived.RangeFuncNested
import Derived.RangeFuncBound
import Derived.RangeFuncCalls
import Derived.RangeFuncLeaves
import Derived.Shelf.Abstract
import Derived.Shelf.RegionOpen
import Derived.WalkKit
import Derived.OwnWalkIn
import Derived.TacticsInMore
import Derived.LoopNIn
import Derived.LoopIn
import Derived.Sort.CutIn
import Derived.Test.YbulkfzaDoorBuild
import Derived.Test.YbulkfzaDoorRound
namespace Go.Proofs.YbulkfzaDoor
open Go.RowKit Go.Lib Go.Shelf

attribute [local go_sem] Oper.semAt_some

/-- What of 'filled' is left when k blocks have come. -/
def bitFrom (F : Nat) : Nat → Nat
  | 0 => 0
  | k + 1 => Lib.ctz 64 (Pop.hi F (bitFrom F k)) + 1

/-- What a round keeps: all below n₀, and the box of the receiver. -/
def KB (n₀ Bs : Nat) (W W' : World) : Prop := Below n₀ W W' ∧ W'.cell? ⟨Bs, 0, none⟩ = W.cell? ⟨Bs, 0, none⟩

/-- What is yielded k-th: the block's place and the bit's number. -/
def item (F k : Nat) : Nat × Nat := (k, Lib.ctz 64 (Pop.hi F (bitFrom F k)))
def items (F k : Nat) : List (Nat × Nat) := (List.range k).map (item F)
theorem items_succ (F k : Nat) : items F (k + 1) = items F k ++ [item F k] := by simp [items, List.range_succ]
theorem items_length (F k : Nat) : (items F k).length = k := by simp [items]

theorem ctz64 (x j : Nat) (hx : x < 18446744073709551616) (h : Lib.ctz 64 x = j) (w : World) (hT : TabAt 0 Lib.deBruijn64tab w) : Calls Ybad.prog 12 #[.int .u64 (x : Int)] w fun e w' => e = .returned (.int .i64 (j : Int)) ∧ w' = w := by
  subst h
  exact Ybad.bits_TrailingZeros64 x hx w (fun _ => hT)

theorem left_count (F : Nat) (hF : F < 2 ^ 64) : ∀ k, k ≤ Pop.pc F → Pop.pc (Pop.hi F (bitFrom F k)) = Pop.pc F - k
  | 0, _ => by simp [bitFrom, Pop.hi_zero]
  | k + 1, hk => by
    have ih := left_count F hF k (by omega)
    have h0 : Pop.hi F (bitFrom F k) ≠ 0 := by intro e; rw [e, Pop.pc_zero] at ih; omega
    obtain ⟨_, h2, h3, _, _, h6⟩ := Pop.next_bit F (bitFrom F k) hF h0
    have h7 := Pop.pc_hi_bit F _ h2 h3
    show Pop.pc (Pop.hi F (Lib.ctz 64 (Pop.hi F (bitFrom F k)) + 1)) = _
    rw [← h6, ih] at h7
    omega

/-- THE k-TH STORED BLOCK. -/
theorem kth (F : Nat) (hF : F < 2 ^ 64) (k : Nat) (hk : k < Pop.pc F) :
    Pop.hi F (bitFrom F k) ≠ 0 ∧ bitFrom F k ≤ (item F k).2 ∧ (item F k).2 < 64 ∧ F.testBit (item F k).2 = true ∧ (∀ i, bitFrom F k ≤ i → i < (item F k).2 → F.testBit i = false) ∧
    Pop.hi F (bitFrom F k) &&& (Pop.hi F (bitFrom F k) - 1) = Pop.hi F (bitFrom F (k + 1)) ∧ Pop.pc (F % 2 ^ (item F k).2) = k ∧ bitFrom F (k + 1) = (item F k).2 + 1 := by
  have ih := left_count F hF k (by omega)
  have h0 : Pop.hi F (bitFrom F k) ≠ 0 := by intro e; rw [e, Pop.pc_zero] at ih; omega
  obtain ⟨h1, h2, h3, h4, h5, h6⟩ := Pop.next_bit F (bitFrom F k) hF h0
  refine ⟨h0, h1, h2, h3, h4, h5, ?_, rfl⟩
  have h7 := Pop.pc_parts (Lib.ctz 64 (Pop.hi F (bitFrom F k))) (by omega) F
  rw [← h6, ih] at h7
  show Pop.pc (F % 2 ^ Lib.ctz 64 (Pop.hi F (bitFrom F k))) = k
  omega

theorem KB.trans {n₀ Bs : Nat} {A B C : World} (h : KB n₀ Bs A B) (k : KB n₀ Bs B C) : KB n₀ Bs A C := ⟨h.1.trans k.1, k.2.trans h.2⟩
theorem KB.refl (n₀ Bs : Nat) (W : World) : KB n₀ Bs W W := ⟨Below.refl _ _, rfl⟩

set_option maxRecDepth 100000 in
set_option maxHeartbeats 2000000 in
theorem all1_in (n l Bs n₀ p x F b c nn : Nat) (hp : p < n₀) (hx : x < 9223372036854775808) (hF : F < 9223372036854775808) (J Jx : List (Nat × Nat) → World → Prop) (hAb : ∀ s A, J s A → J s A.drew) (hnn : Hid (Pop.pc F = nn)) (hnn64 : nn ≤ 64)
    (hY : ∀ pre y W, J pre W → pre.length < nn → YieldAt Fence.wide (n - 1) Ybad.prog l #[.pointer (some ⟨b, y.1, none⟩), .int .i64 ((x % 2 ^ y.2 : Nat) : Int)] W fun e W' =>
      (e = .returned (.bool true) ∧ J (pre ++ [y]) W' ∧ KB n₀ Bs W W') ∨ (e = .returned (.bool false) ∧ Jx (pre ++ [y]) W'))
    (W : World) (hBs : W.cell? ⟨Bs, 0, none⟩ = some (.pointer (some ⟨p, 0, none⟩))) (h0 : W.cell? ⟨p, 0, none⟩ = some (.int .u64 (x : Nat))) (h1 : W.cell? ⟨p, 1, none⟩ = some (.int .u64 (F : Nat)))
    (h2 : W.cell? ⟨p, 2, none⟩ = some (.slice (some ⟨b, 0, none⟩) nn c)) (hT : TabAt 0 Lib.deBruijn64tab W) (hn0 : 0 < n₀) (hJ0 : J [] W) :
    CallsIn Fence.wide n Ybad.prog 11 #[.func (.yield l) #[] #[], .pointer (some ⟨Bs, 0, none⟩)] W fun e W' => (∃ v, e = .returned v) ∧
      ((∃ ys, ys = items F nn ∧ J ys W') ∨ (∃ pre, (∃ k, k ≤ nn ∧ pre = items F k) ∧ Jx pre W')) := by
  have HT : Hid (TabAt 0 Lib.deBruijn64tab W) := hT
  clear hT
  refine callsIn_of_wp Ybad.func11 rfl trivial ?_ rfl
  simp only [Ybad.ntmps11, List.size_toArray, List.length_cons, List.length_nil, Nat.reduceAdd, Nat.reduceSub, Array.replicate_succ, Array.replicate_zero, List.push_toArray, List.append_toArray, List.nil_append, List.cons_append]
  gi_wp2
  gi_loopw [3, 15] (fun dg i wr => ∃ k : Nat, k ≤ nn ∧ i = .int .i64 (k : Int) ∧ dg = .int .u64 ((Pop.hi F (bitFrom F k) : Nat) : Int) ∧ J (items F k) wr ∧ KB n₀ Bs W wr)
    (fun _ i _ => nn - (RowKit.intOf i).toNat)
  case atStart => exact ⟨0, Nat.zero_le _, rfl, by rw [bitFrom, Pop.hi_zero], hJ0, KB.refl _ _ _⟩
  case round =>
    obtain ⟨k, hk, rfl, rfl, hJs, hkb⟩ := hrel
    have HJ : Hid (J (items F k) wr) := hJs
    have HKB : Hid (KB n₀ Bs W wr) := hkb
    clear hJs hkb
    by_cases hlt : k < nn
    · obtain ⟨r1, r2, r3, r4, r5, r6, r7, r8⟩ := kth F (by omega) k (by rw [hnn.out]; exact hlt)
      obtain ⟨j, hj⟩ : ∃ j, j = (item F k).2 := ⟨_, rfl⟩
      have hDle := Pop.hi_le F (bitFrom F k)
      obtain ⟨fn, tmps, assign, body, hy, hR⟩ := hY _ (item F k) wr.drew (hAb _ _ HJ.out) (by rw [items_length]; exact hlt)
      have hitem : item F k = (k, j) := by rw [hj]; rfl
      rw [hitem] at hy hR
      dsimp only at hy
      rw [← hj] at r2 r3 r4 r5 r7 r8
      have hctz : Hid (Lib.ctz 64 (Pop.hi F (bitFrom F k)) = j) := hj.symm
      rw [← hnn.out] at hY
      have hctz2 : Hid (Lib.ctz 64 (Pop.hi F (bitFrom F k)) = j) := hctz
      have R6 : Hid (Pop.hi F (bitFrom F k) &&& (Pop.hi F (bitFrom F k) - 1) = Pop.hi F (bitFrom F (k + 1))) := r6
      have HR : Hid (RoundIn Fence.wide (n - 1) Ybad.prog l fn tmps assign body wr.drew fun e W' => ∃ t : Bool, e = .returned (.bool t) ∧ (t = true → J (items F k ++ [(k, j)]) W' ∧ KB n₀ Bs wr.drew W') ∧ (t = false → Jx (items F k ++ [(k, j)]) W')) := hR.mono (by rintro e W' (⟨rfl, h1, h2⟩ | ⟨rfl, h1⟩); exact ⟨true, rfl, fun _ => ⟨h1, h2⟩, fun h => (by cases h)⟩; exact ⟨false, rfl, fun h => (by cases h), fun _ => h1⟩)
      clear r4 r5 r6 r7 r8 hY hitem hj r2 hR hAb
      obtain ⟨D, hD⟩ : ∃ D, D = Pop.hi F (bitFrom F k) := ⟨_, rfl⟩
      rw [← hD] at r1 hDle hctz R6 ⊢
      clear hD
      have qB := HKB.out.2.trans hBs
      have q0 := (HKB.out.1.cell (p := ⟨p, 0, none⟩) hp).trans h0
      have q2 := (HKB.out.1.cell (p := ⟨p, 2, none⟩) hp).trans h2
      have qT : Hid (TabAt 0 Lib.deBruijn64tab wr) := fun i hi => (HKB.out.1.cell (p := ⟨0, i, none⟩) hn0).trans (HT.out i hi)
      clear hBs h0 h1 h2
      have hki : (k : Int) < (nn : Int) := by omega
      have hsince := and_form x j (by omega) (by omega)
      have hxm : x % 2 ^ j ≤ x := Nat.mod_le _ _
      obtain ⟨D', hD'⟩ : ∃ D', D' = Pop.hi F (bitFrom F (k + 1)) := ⟨_, rfl⟩
      have hand : bits .and .u64 (D : Int) ((D : Int) - 1) = (D' : Int) := by
        have e : ((D : Int) - 1) = ((D - 1 : Nat) : Int) := by omega
        rw [e, u64_and_nat D (D - 1) (by omega) (by omega), R6.out, hD']
      have HD' : Hid (D' = Pop.hi F (bitFrom F (k + 1))) := hD'
      clear hD'
      generalize hs : x % 2 ^ j = sn at *
      clear hs
      have hsw : IntKind.i64.wrap (sn : Int) = (sn : Int) := by rw [IntKind.wrap_i64]; omega
      have hmx : Ybad.prog.follows .mixedOrders = true := by kernel_rfl
      gi_wp2_with fail
      refine ⟨trivial, fun h => (by cases h), ?_⟩
      refine (callsIn_wide.2 (ctz64 D j (by omega) hctz.out _ qT.out)).mono ?_
      rintro e w' ⟨rfl, hw⟩
      subst hw
      gi_wp2_with fail
      gi_cut [41] from 24 (fun v W3 => (v = .bool false ∧ J (items F k ++ [(k, j)]) W3 ∧ KB n₀ Bs w'.drew W3) ∨ (v = .bool true ∧ Jx (items F k ++ [(k, j)]) W3))
      case first =>
        gi_region_with_o (refine ⟨fun h => (by cases h), ?_⟩; refine HR.out.mono ?_; rintro e W3 ⟨t, rfl, hT3, hF3⟩; have HT3 : Hid (t = true → J (items F k ++ [(k, j)]) W3 ∧ KB n₀ Bs w'.drew W3) := hT3; have HF3 : Hid (t = false → Jx (items F k ++ [(k, j)]) W3) := hF3; clear hT3 hF3)
        all_goals (gi_wp2_with fail; gi_meet; cases t; exact .inr ⟨rfl, HF3.out rfl⟩; exact .inl ⟨rfl, HT3.out rfl⟩)
      case rest =>
        rcases hcut with ⟨rfl, hJ3, hk3⟩ | ⟨rfl, hJx3⟩
        · have HJ3 : Hid (J (items F k ++ [(k, j)]) wc) := hJ3
          have HK3 : Hid (KB n₀ Bs w'.drew wc) := hk3
          clear hJ3 hk3
          gi_wp2
          go_roundw
          case rel =>
            have hit : items F (k + 1) = items F k ++ [(k, j)] := by rw [items_succ, item, hctz2.out]
            exact ⟨k + 1, by omega, by go_num, by rw [← HD'.out], by rw [hit]; exact HJ3.out, HKB.out.trans (KB.trans ⟨(Below.refl _ _).drew, rfl⟩ HK3.out)⟩
          case measure => simp [RowKit.intOf]; omega
        · have HJX : Hid (Jx (items F k ++ [(k, j)]) wc) := hJx3
          clear hJx3
          gi_wp2
          refine bodyPost_ret (results_none rfl _ _ _) rfl ?_
          have hit : items F (k + 1) = items F k ++ [(k, j)] := by rw [items_succ, item, hctz2.out]
          exact ⟨⟨_, rfl⟩, .inr ⟨_, ⟨k + 1, by omega, rfl⟩, by rw [hit]; exact HJX.out⟩⟩
    · obtain rfl : k = nn := by omega
      gi_wp2
      go_end0
      exact ⟨⟨_, rfl⟩, .inl ⟨_, rfl, HJ.out⟩⟩

set_option maxRecDepth 100000 in
set_option maxHeartbeats 1000000 in
/-- .. at the nil slice: no round. -/
theorem all1_nil_in (n l Bs p : Nat) (F : Nat) (J : List (Nat × Nat) → World → Prop) (W : World) (hBs : W.cell? ⟨Bs, 0, none⟩ = some (.pointer (some ⟨p, 0, none⟩)))
    (h1 : W.cell? ⟨p, 1, none⟩ = some (.int .u64 (F : Nat))) (h2 : W.cell? ⟨p, 2, none⟩ = some (.slice none 0 0)) (h0 : J [] W) :
    CallsIn Fence.wide n Ybad.prog 11 #[.func (.yield l) #[] #[], .pointer (some ⟨Bs, 0, none⟩)] W fun e W' => (∃ v, e = .returned v) ∧ J [] W' := by
  refine callsIn_of_wp Ybad.func11 rfl trivial ?_ rfl
  simp only [Ybad.ntmps11, List.size_toArray, List.length_cons, List.length_nil, Nat.reduceAdd, Nat.reduceSub, Array.replicate_succ, Array.replicate_zero, List.push_toArray, List.append_toArray, List.nil_append, List.cons_append]
  gi_wp2
  gi_loopw [3, 15] (fun dg i wr => dg = .int .u64 (F : Nat) ∧ i = .int .i64 0 ∧ J [] wr) (fun _ _ _ => 0)
  case atStart => exact ⟨rfl, rfl, h0⟩
  case round =>
    obtain ⟨rfl, rfl, hJs⟩ := hrel
    have HJ : Hid (J [] wr) := hJs
    clear hJs
    gi_wp2
    go_end0
    exact ⟨⟨_, rfl⟩, HJ.out⟩

/-- 'w.all()': the receiver is boxed; the function value captures the box. -/
theorem all_call (p : Option Addr) (w : World) :
    Calls Ybad.prog 7 #[.pointer p] w fun e w' => e = .returned (.func (.func 11) #[] #[.pointer (some ⟨w.heap.size, 0, none⟩)]) ∧ w' = w.alloc (.cells #[.pointer p] 24) := by
  go_enter Ybad.func7, Ybad.ntmps7
  go_wp2
  go_ret
  exact ⟨rfl, rfl⟩

/-- Where a block at b lies: at the row's; anywhere at the nil row's. -/
def rowBlock : Value → Nat
  | .slice (some a) _ _ => a.block
  | _ => 0

/-- **'w.all()' YIELDS THE STORED BLOCKS IN ORDER, THE k-TH WITH x mod 2^j, j THE k-TH BIT OF filled**, or a part of them where a round has said 'no more'. -/
theorem all_stops (n Bs n₀ p x F B : Nat) (s : Value) (w : World) (hBs : Bs < w.heap.size) (hn₀ : n₀ ≤ w.heap.size) (hp : p < n₀) (hn0 : 0 < n₀) (hx : x < 9223372036854775808) (hF : F < 9223372036854775808)
    (hst : St B w p x F s) (hc : w.cell? ⟨Bs, 0, none⟩ = some (.pointer (some ⟨p, 0, none⟩))) (hT : TabAt 0 Lib.deBruijn64tab w) :
    SeqStopsK Fence.wide n Ybad.prog 11 #[.pointer (some ⟨Bs, 0, none⟩)] (fun y : Nat × Nat => #[.pointer (some ⟨rowBlock s, y.1, none⟩), .int .i64 ((x % 2 ^ y.2 : Nat) : Int)]) (KB n₀ Bs)
      (fun ys => ys = items F (Pop.pc F)) (fun pre => ∃ k, k ≤ Pop.pc F ∧ pre = items F k) (Pop.pc F) w := fun l J Jx W hW hJ _ hY h0 => by
  have cB := (hW.cell (p := ⟨Bs, 0, none⟩) hBs).trans hc
  have c0 := (hW.cell (p := ⟨p, 0, none⟩) hst.lt).trans hst.c0
  have c1 := (hW.cell (p := ⟨p, 1, none⟩) hst.lt).trans hst.c1
  have c2 := (hW.cell (p := ⟨p, 2, none⟩) hst.lt).trans hst.c2
  have cT : TabAt 0 Lib.deBruijn64tab W := fun i hi => (hW.cell (p := ⟨0, i, none⟩) (by show 0 < w.heap.size; omega)).trans (hT i hi)
  have hAb : ∀ s A, J s A → J s A.drew := fun s A h => hJ s A A.drew none h ⟨rfl, rfl, rfl, Nat.le_refl _, fun _ _ _ => rfl⟩ (fun r e => (by cases e))
  rcases hst.row with ⟨hs, hn⟩ | ⟨b, c, hs, _⟩
  · subst hs
    refine (all1_nil_in n l Bs p F J W cB c1 c2 h0).mono fun e W' ⟨he, hj⟩ => ⟨he, .inl ⟨_, ?_, hj⟩⟩
    rw [hn]; rfl
  · subst hs
    exact all1_in n l Bs n₀ p x F b c (Pop.pc F) hp hx hF J Jx hAb rfl (Pop.pc_le F) hY W cB c0 c1 c2 cT hn0 h0

theorem all_stops_rb (rb n Bs n₀ p x F B : Nat) (s : Value) (w : World) (hrb : rowBlock s = rb) (hBs : Bs < w.heap.size) (hn₀ : n₀ ≤ w.heap.size) (hp : p < n₀) (hn0 : 0 < n₀) (hx : x < 9223372036854775808) (hF : F < 9223372036854775808)
    (hst : St B w p x F s) (hc : w.cell? ⟨Bs, 0, none⟩ = some (.pointer (some ⟨p, 0, none⟩))) (hT : TabAt 0 Lib.deBruijn64tab w) :
    SeqStopsK Fence.wide n Ybad.prog 11 #[.pointer (some ⟨Bs, 0, none⟩)] (fun y : Nat × Nat => #[.pointer (some ⟨rb, y.1, none⟩), .int .i64 ((x % 2 ^ y.2 : Nat) : Int)]) (KB n₀ Bs)
      (fun ys => ys = items F (Pop.pc F)) (fun pre => ∃ k, k ≤ Pop.pc F ∧ pre = items F k) (Pop.pc F) w := by
  subst hrb
  exact all_stops n Bs n₀ p x F B s w hBs hn₀ hp hn0 hx hF hst hc hT

theorem KB.trans' (n₀ Bs : Nat) : ∀ {A B C : World}, KB n₀ Bs A B → KB n₀ Bs B C → KB n₀ Bs A C := fun h k => h.trans k
theorem KB.put {n₀ Bs : Nat} {w : World} (hn : n₀ ≤ w.heap.size) (hB : Bs < w.heap.size) : ∀ (W : World) (l : Nat) (o o' : Obj), w.heap.size ≤ l → W.heap[l]? = some o → o.isCells = false → o.isWalk = false → KB n₀ Bs W (W.putObj l o') :=
  fun W l o o' hl h1 h2 h3 => ⟨belowK_b hn W l o o' hl h1 h2 h3, World.cell?_of_block (w := W) (a := ⟨Bs, 0, none⟩) (World.putObj_heap_other (by show Bs ≠ l; omega))⟩
end Go.Proofs.YbulkfzaDoor
