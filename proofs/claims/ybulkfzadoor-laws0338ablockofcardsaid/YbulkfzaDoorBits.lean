/-
  Seat b0338aD: plain arithmetic on the bits of natural numbers below 2^64: what 'timeBlocks' keeps of 'x' and 'filled'.
-/
import Derived.Test.YbulkfzaDoorPop
import Derived.Lib.TrailingZeros
namespace Go.Proofs.YbulkfzaDoor.Pop

theorem two_pow_split (j : Nat) (hj : j ≤ 64) (x : Nat) : pc x = pcA j (x % 2 ^ j) + pcA (64 - j) (x / 2 ^ j) := by
  have := pcA_add j (64 - j) x
  rwa [show j + (64 - j) = 64 by omega] at this

theorem pc_mod (j : Nat) (hj : j ≤ 64) (x : Nat) : pc (x % 2 ^ j) = pcA j (x % 2 ^ j) := by
  rw [two_pow_split j hj, Nat.mod_mod, Nat.div_eq_of_lt (Nat.mod_lt _ (Nat.two_pow_pos j)), pcA_zero]
  rfl

theorem pc_mul (j : Nat) (hj : j ≤ 64) (q : Nat) : pc (q * 2 ^ j) = pcA (64 - j) q := by
  rw [two_pow_split j hj, Nat.mul_mod_left, pcA_zero, Nat.mul_div_left _ (Nat.two_pow_pos j)]
  omega

/-- What of F lies at bit b and above. -/
def hi (F b : Nat) : Nat := F / 2 ^ b * 2 ^ b

theorem pc_parts (j : Nat) (hj : j ≤ 64) (F : Nat) : pc (F % 2 ^ j) + pc (hi F j) = pc F := by
  rw [pc_mod j hj, hi, pc_mul j hj, ← two_pow_split j hj]

theorem pc_zero : pc 0 = 0 := pcA_zero 64
theorem pc_le (x : Nat) : pc x ≤ 64 := pcA_le 64 x

theorem hi_zero (F : Nat) : hi F 0 = F := by simp [hi]

theorem testBit_hi (F b i : Nat) : (hi F b).testBit i = (decide (b ≤ i) && F.testBit i) := by
  unfold hi
  rw [Nat.testBit_mul_two_pow]
  by_cases h : b ≤ i
  · rw [Nat.testBit_div_two_pow, show i - b + b = i by omega]
  · simp [h]

theorem hi_le (F b : Nat) : hi F b ≤ F := by unfold hi; exact Nat.div_mul_le_self _ _

/-- Two numbers below 2^64 with one and the same bits. -/
theorem andNot_low (F c : Nat) (hF : F < 2 ^ 64) : F &&& (18446744073709551615 - F % 2 ^ c) = hi F c := by
  apply Nat.eq_of_testBit_eq
  intro i
  have hlow : F % 2 ^ c < 2 ^ 64 := Nat.lt_of_le_of_lt (Nat.mod_le _ _) hF
  have e : 18446744073709551615 - F % 2 ^ c = 2 ^ 64 - (F % 2 ^ c + 1) := by omega
  rw [Nat.testBit_and, e, Nat.testBit_two_pow_sub_succ hlow, Nat.testBit_mod_two_pow, testBit_hi]
  by_cases hi64 : i < 64
  · by_cases h : c ≤ i
    · have h2 : ¬ i < c := by omega
      simp [h, h2, hi64]
    · have h2 : i < c := by omega
      simp [h, h2, hi64]
  · have hz : F.testBit i = false := Nat.testBit_lt_two_pow (Nat.lt_of_lt_of_le hF (Nat.pow_le_pow_right (by decide) (by omega)))
    simp [hz]

theorem and_low (F c : Nat) : F &&& (2 ^ c - 1) = F % 2 ^ c := Nat.and_two_pow_sub_one_eq_mod F c

/-! ### The bit length -/
theorem bitLenAux_spec : ∀ (f x : Nat), x < 2 ^ f → x < 2 ^ Lib.bitLenAux f x ∧ (x ≠ 0 → 1 ≤ Lib.bitLenAux f x ∧ 2 ^ (Lib.bitLenAux f x - 1) ≤ x)
  | 0, x, h => by
    have : x = 0 := by simpa using h
    subst this
    simp [Lib.bitLenAux]
  | f + 1, x, h => by
    unfold Lib.bitLenAux
    split
    · rename_i h0; subst h0; simp
    · rename_i h0
      obtain ⟨h1, h2⟩ := bitLenAux_spec f (x / 2) (by rw [Nat.pow_succ] at h; omega)
      refine ⟨?_, fun _ => ⟨by omega, ?_⟩⟩
      · rw [Nat.add_comm, Nat.pow_succ]; omega
      · by_cases hx : x / 2 = 0
        · have : x = 1 := by omega
          subst this
          have : Lib.bitLenAux f (1 / 2) = 0 := by
            cases f <;> simp [Lib.bitLenAux]
          rw [this]; simp
        · obtain ⟨h3, h4⟩ := h2 hx
          have e : 1 + Lib.bitLenAux f (x / 2) - 1 = (Lib.bitLenAux f (x / 2) - 1) + 1 := by omega
          rw [e, Nat.pow_succ]; omega

theorem lt_bitLen (x : Nat) (h : x < 2 ^ 64) : x < 2 ^ Lib.bitLen x := (bitLenAux_spec 64 x h).1
theorem bitLen_ge (x : Nat) (h : x < 2 ^ 64) (h0 : x ≠ 0) : 1 ≤ Lib.bitLen x ∧ 2 ^ (Lib.bitLen x - 1) ≤ x := (bitLenAux_spec 64 x h).2 h0
theorem bitLen_le64 (x : Nat) (h : x < 2 ^ 64) : Lib.bitLen x ≤ 64 := Lib.bitLen_le x 64 (Nat.le_refl _) h

theorem bitLen_eq (d j : Nat) (h1 : 2 ^ j ≤ d) (h2 : d < 2 ^ (j + 1)) (hj : j < 64) : Lib.bitLen d = j + 1 := by
  have h64 : d < 2 ^ 64 := Nat.lt_of_lt_of_le h2 (Nat.pow_le_pow_right (by decide) (by omega))
  have a := Lib.bitLen_le d (j + 1) (by omega) h2
  have b := lt_bitLen d h64
  have c : j < Lib.bitLen d := by
    have : 2 ^ j < 2 ^ Lib.bitLen d := Nat.lt_of_le_of_lt h1 b
    exact (Nat.pow_lt_pow_iff_right (by decide)).1 this
  omega

/-- 'moveTo': the bits at c and above are one in both, c the length of what differs. -/
theorem above_same (x x' c i : Nat) (hx : x < 2 ^ 64) (hx' : x' < 2 ^ 64) (hc : c = Lib.bitLen (x' ^^^ x)) (hi : c ≤ i) : x'.testBit i = x.testBit i := by
  have h := lt_bitLen (x' ^^^ x) (Nat.xor_lt_two_pow hx' hx)
  rw [← hc] at h
  have hz : (x' ^^^ x).testBit i = false := Nat.testBit_lt_two_pow (Nat.lt_of_lt_of_le h (Nat.pow_le_pow_right (by decide) hi))
  rw [Nat.testBit_xor] at hz
  cases h1 : x'.testBit i <;> cases h2 : x.testBit i <;> simp [h1, h2] at hz ⊢

theorem bit_div (F j : Nat) : F.testBit j = decide (F / 2 ^ j % 2 = 1) := by rw [Nat.testBit_eq_decide_div_mod_eq]

theorem lt_of_bits (x t j : Nat) (hx : x.testBit j = false) (ht : t.testBit j = true) (h : ∀ i, j < i → x.testBit i = t.testBit i) : x < t := by
  have e : x / 2 ^ j / 2 = t / 2 ^ j / 2 := by
    apply Nat.eq_of_testBit_eq
    intro i
    rw [← Nat.testBit_succ, ← Nat.testBit_succ, Nat.testBit_div_two_pow, Nat.testBit_div_two_pow]
    exact h _ (by omega)
  rw [bit_div] at hx ht
  have h1 : ¬ (x / 2 ^ j % 2 = 1) := by simpa using hx
  have h2 : t / 2 ^ j % 2 = 1 := by simpa using ht
  have h3 : x / 2 ^ j < t / 2 ^ j := by omega
  exact Nat.lt_of_div_lt_div h3

/-- 'blockOf': t below x: x has the bit at which they differ first. -/
theorem top_bit (t x : Nat) (hx : x < 2 ^ 64) (h : t < x) : 1 ≤ Lib.bitLen (t ^^^ x) ∧ Lib.bitLen (t ^^^ x) ≤ 64 ∧ x.testBit (Lib.bitLen (t ^^^ x) - 1) = true := by
  have ht : t < 2 ^ 64 := Nat.lt_trans h hx
  have hd := Nat.xor_lt_two_pow ht hx
  have h0 : t ^^^ x ≠ 0 := by
    intro h0
    have : t = x := by
      apply Nat.eq_of_testBit_eq
      intro i
      have hz : (t ^^^ x).testBit i = false := by rw [h0]; simp
      rw [Nat.testBit_xor] at hz
      cases h1 : t.testBit i <;> cases h2 : x.testBit i <;> simp [h1, h2] at hz ⊢
    omega
  obtain ⟨g1, g2⟩ := bitLen_ge _ hd h0
  have g3 := lt_bitLen _ hd
  refine ⟨g1, bitLen_le64 _ hd, ?_⟩
  generalize hj : Lib.bitLen (t ^^^ x) - 1 = j at *
  have e : Lib.bitLen (t ^^^ x) = j + 1 := by omega
  rw [e] at g3
  have hb : (t ^^^ x).testBit j = true := Nat.testBit_of_two_pow_le_and_two_pow_add_one_gt g2 g3
  have ha : ∀ i, j < i → x.testBit i = t.testBit i := by
    intro i hi
    have hz : (t ^^^ x).testBit i = false := Nat.testBit_lt_two_pow (Nat.lt_of_lt_of_le g3 (Nat.pow_le_pow_right (by decide) hi))
    rw [Nat.testBit_xor] at hz
    cases h1 : t.testBit i <;> cases h2 : x.testBit i <;> simp [h1, h2] at hz ⊢
  rw [Nat.testBit_xor] at hb
  cases hxj : x.testBit j
  · rw [hxj] at hb
    have htj : t.testBit j = true := by simpa using hb
    exact absurd (lt_of_bits x t j hxj htj ha) (by omega)
  · rfl


theorem pcA_bit (f q : Nat) (hf : 1 ≤ f) (h : q % 2 = 0) : pcA f (q + 1) = pcA f q + 1 := by
  obtain ⟨g, rfl⟩ : ∃ g, f = g + 1 := ⟨f - 1, by omega⟩
  simp only [pcA]
  have e1 : (q + 1) / 2 = q / 2 := by omega
  rw [e1]; omega

/-- A new bit: one more. -/
theorem or_bit (F j : Nat) (hj : j < 64) (h : F.testBit j = false) : F ||| 2 ^ j = F + 2 ^ j ∧ pc (F ||| 2 ^ j) = pc F + 1 := by
  have hq : F / 2 ^ j % 2 = 0 := by
    rw [bit_div] at h
    have : ¬ (F / 2 ^ j % 2 = 1) := by simpa using h
    omega
  have e : F ||| 2 ^ j = F + 2 ^ j := by
    have hp := Nat.two_pow_pos j
    have hm : (F ||| 2 ^ j) % 2 ^ j = F % 2 ^ j := by
      rw [Nat.or_mod_two_pow, Nat.mod_self, Nat.or_zero]
    have hd : (F ||| 2 ^ j) / 2 ^ j = F / 2 ^ j + 1 := by
      rw [Nat.or_div_two_pow, Nat.div_self hp]
      have := Nat.div_add_mod (F / 2 ^ j ||| 1) 2
      have h1 : (F / 2 ^ j ||| 1) / 2 = F / 2 ^ j / 2 := by
        have := Nat.or_div_two_pow (a := F / 2 ^ j) (b := 1) (n := 1)
        simpa using this
      have h2 : (F / 2 ^ j ||| 1) % 2 = 1 := by
        simp
      omega
    have h1 := Nat.div_add_mod (F ||| 2 ^ j) (2 ^ j)
    have h2 := Nat.div_add_mod F (2 ^ j)
    rw [hm, hd, Nat.mul_add, Nat.mul_one] at h1
    omega
  refine ⟨e, ?_⟩
  rw [e, two_pow_split j (by omega) (F + 2 ^ j), two_pow_split j (by omega) F, Nat.add_mod_right, Nat.add_div_right _ (Nat.two_pow_pos j), pcA_bit _ _ (by omega) hq]
  omega

theorem pc_hi_bit (F j : Nat) (hj : j < 64) (h : F.testBit j = true) : pc (hi F j) = pc (hi F (j + 1)) + 1 := by
  have hq : F / 2 ^ j % 2 = 1 := by rw [bit_div] at h; simpa using h
  have e : hi F (j + 1) = (F / 2 ^ j - 1) * 2 ^ j := by
    unfold hi
    rw [Nat.pow_succ, ← Nat.div_div_eq_div_mul, Nat.mul_comm (2 ^ j) 2, ← Nat.mul_assoc]
    congr 1
    omega
  rw [e, hi, pc_mul j (by omega), pc_mul j (by omega)]
  have := pcA_bit (64 - j) (F / 2 ^ j - 1) (by omega) (by omega)
  rw [← this, Nat.sub_add_cancel (by generalize F / 2 ^ j = q at hq; omega)]

/-- The block of a bit that is set has its place among the stored ones. -/
theorem pc_low_lt (F j : Nat) (hj : j < 64) (h : F.testBit j = true) : pc (F % 2 ^ j) < pc F := by
  have h1 := pc_parts j (by omega) F
  have h2 := pc_hi_bit F j hj h
  omega
theorem pc_low_le (F j : Nat) (hj : j ≤ 64) : pc (F % 2 ^ j) ≤ pc F := by
  have h1 := pc_parts j hj F
  omega

theorem odd_and (m : Nat) : (2 * m + 1) &&& (2 * m) = 2 * m := by
  have h1 : ((2 * m + 1) &&& (2 * m)) / 2 = m := by
    have := Nat.and_div_two_pow (a := 2 * m + 1) (b := 2 * m) (n := 1)
    rw [Nat.pow_one, show (2 * m + 1) / 2 = m by omega, show 2 * m / 2 = m by omega, Nat.and_self] at this
    exact this
  have h2 : ((2 * m + 1) &&& (2 * m)) % 2 = 0 := by
    have := Nat.and_mod_two_pow (a := 2 * m + 1) (b := 2 * m) (n := 1)
    rw [Nat.pow_one, show (2 * m) % 2 = 0 by omega, Nat.and_zero] at this
    exact this
  omega

/-- 'digits &= digits - 1': the lowest one bit falls. -/
theorem drop_low (j m : Nat) : (2 ^ j * (2 * m + 1)) &&& (2 ^ j * (2 * m + 1) - 1) = 2 ^ (j + 1) * m := by
  have hp := Nat.two_pow_pos j
  have e1 : 2 ^ j * (2 * m + 1) - 1 = 2 ^ j * (2 * m) + (2 ^ j - 1) := by rw [Nat.mul_add, Nat.mul_one]; omega
  have hd : ((2 ^ j * (2 * m + 1)) &&& (2 ^ j * (2 * m + 1) - 1)) / 2 ^ j = 2 * m := by
    rw [Nat.and_div_two_pow, Nat.mul_div_right _ hp, e1, Nat.mul_add_div hp, Nat.div_eq_of_lt (by omega)]
    exact odd_and m
  have hm : ((2 ^ j * (2 * m + 1)) &&& (2 ^ j * (2 * m + 1) - 1)) % 2 ^ j = 0 := by
    rw [Nat.and_mod_two_pow, Nat.mul_mod_right, Nat.zero_and]
  have := Nat.div_add_mod ((2 ^ j * (2 * m + 1)) &&& (2 ^ j * (2 * m + 1) - 1)) (2 ^ j)
  rw [hd, hm] at this
  rw [← this, Nat.pow_succ, Nat.add_zero, Nat.mul_assoc]

/-- THE NEXT STORED BLOCK: with the bits below b gone and something left. -/
theorem next_bit (F b : Nat) (hF : F < 2 ^ 64) (h0 : hi F b ≠ 0) :
    b ≤ Lib.ctz 64 (hi F b) ∧ Lib.ctz 64 (hi F b) < 64 ∧ F.testBit (Lib.ctz 64 (hi F b)) = true ∧ (∀ k, b ≤ k → k < Lib.ctz 64 (hi F b) → F.testBit k = false) ∧
    hi F b &&& (hi F b - 1) = hi F (Lib.ctz 64 (hi F b) + 1) ∧ hi F b = hi F (Lib.ctz 64 (hi F b)) := by
  have hlt : hi F b < 2 ^ 64 := Nat.lt_of_le_of_lt (hi_le F b) hF
  obtain ⟨m, hm, hk⟩ := Lib.ctzFrom_spec 64 (hi F b) (by omega) hlt
  have e : Lib.ctz 64 (hi F b) = Lib.ctzFrom 64 (hi F b) := by simp [Lib.ctz, h0]
  rw [← e] at hm hk
  generalize hj : Lib.ctz 64 (hi F b) = j at *
  have hbit : ∀ i, (hi F b).testBit i = (decide (j ≤ i) && (2 * m + 1).testBit (i - j)) := by
    intro i
    rw [hm, Nat.mul_comm, Nat.testBit_mul_two_pow]
  have hself : (hi F b).testBit j = true := by rw [hbit]; simp
  have hbj : b ≤ j := by
    rw [testBit_hi] at hself
    by_cases h : b ≤ j
    · exact h
    · simp [h] at hself
  have hFj : F.testBit j = true := by
    rw [testBit_hi] at hself
    simpa [hbj] using hself
  have hbelow : ∀ k, b ≤ k → k < j → F.testBit k = false := by
    intro k h1 h2
    have := hbit k
    rw [testBit_hi] at this
    have h3 : ¬ j ≤ k := by omega
    simpa [h1, h3] using this
  have hsame : hi F b = hi F j := by
    apply Nat.eq_of_testBit_eq
    intro i
    rw [testBit_hi, testBit_hi]
    by_cases h1 : j ≤ i
    · simp [h1, show b ≤ i by omega]
    · by_cases h2 : b ≤ i
      · simp [h1, h2, hbelow i h2 (by omega)]
      · simp [h1, h2]
  refine ⟨hbj, hk, hFj, hbelow, ?_, hsame⟩
  rw [hm, drop_low]
  have h1 : F / 2 ^ j = 2 * m + 1 := by
    have : F / 2 ^ j * 2 ^ j = 2 ^ j * (2 * m + 1) := by rw [← hm, hsame]; rfl
    rw [Nat.mul_comm (2 ^ j)] at this
    exact Nat.eq_of_mul_eq_mul_right (Nat.two_pow_pos j) this
  unfold hi
  rw [Nat.pow_succ, ← Nat.div_div_eq_div_mul, h1, show (2 * m + 1) / 2 = m by omega, Nat.mul_comm]

/-- The law of 'blockOf' at a yielded moment: the same bit. -/
theorem back_bit (x j : Nat) (hj : j < 64) (hx : x < 2 ^ 64) (hb : x.testBit j = true) :
    x % 2 ^ j + 1 ≤ x ∧ Lib.bitLen ((x - 1 - x % 2 ^ j) ^^^ x) = j + 1 ∧ x / 2 ^ j * 2 ^ j = x - x % 2 ^ j := by
  have hp := Nat.two_pow_pos j
  have hq : x / 2 ^ j % 2 = 1 := by rw [bit_div] at hb; simpa using hb
  have hdm := Nat.div_add_mod x (2 ^ j)
  have hml := Nat.mod_lt x hp
  obtain ⟨m, hm⟩ : ∃ m, x / 2 ^ j = 2 * m + 1 := ⟨x / 2 ^ j / 2, by omega⟩
  rw [hm, Nat.mul_add, Nat.mul_one] at hdm
  have ht : x - 1 - x % 2 ^ j = 2 ^ j * (2 * m) + (2 ^ j - 1) := by omega
  refine ⟨by omega, ?_, ?_⟩
  · apply bitLen_eq _ _ _ _ hj
    · have hd : ((x - 1 - x % 2 ^ j) ^^^ x) / 2 ^ j = 1 := by
        rw [Nat.xor_div_two_pow, ht, Nat.mul_add_div hp, Nat.div_eq_of_lt (by omega : 2 ^ j - 1 < 2 ^ j), Nat.add_zero, hm]
        have h1 : ((2 * m) ^^^ (2 * m + 1)) / 2 = 0 := by
          have := Nat.xor_div_two_pow (a := 2 * m) (b := 2 * m + 1) (n := 1)
          rw [Nat.pow_one, show (2 * m + 1) / 2 = m by omega, show 2 * m / 2 = m by omega, Nat.xor_self] at this
          exact this
        have h2 : ((2 * m) ^^^ (2 * m + 1)) % 2 = 1 := by
          have := Nat.xor_mod_two_pow (a := 2 * m) (b := 2 * m + 1) (n := 1)
          rw [Nat.pow_one, show (2 * m) % 2 = 0 by omega, show (2 * m + 1) % 2 = 1 by omega] at this
          exact this
        omega
      have := Nat.div_mul_le_self ((x - 1 - x % 2 ^ j) ^^^ x) (2 ^ j)
      rw [hd] at this
      omega
    · have hd : ((x - 1 - x % 2 ^ j) ^^^ x) / 2 ^ j = 1 := by
        rw [Nat.xor_div_two_pow, ht, Nat.mul_add_div hp, Nat.div_eq_of_lt (by omega : 2 ^ j - 1 < 2 ^ j), Nat.add_zero, hm]
        have h1 : ((2 * m) ^^^ (2 * m + 1)) / 2 = 0 := by
          have := Nat.xor_div_two_pow (a := 2 * m) (b := 2 * m + 1) (n := 1)
          rw [Nat.pow_one, show (2 * m + 1) / 2 = m by omega, show 2 * m / 2 = m by omega, Nat.xor_self] at this
          exact this
        have h2 : ((2 * m) ^^^ (2 * m + 1)) % 2 = 1 := by
          have := Nat.xor_mod_two_pow (a := 2 * m) (b := 2 * m + 1) (n := 1)
          rw [Nat.pow_one, show (2 * m) % 2 = 0 by omega, show (2 * m + 1) % 2 = 1 by omega] at this
          exact this
        omega
      rw [Nat.pow_succ]
      have := (Nat.div_lt_iff_lt_mul hp (x := (x - 1 - x % 2 ^ j) ^^^ x) (y := 2)).1 (by omega)
      omega
  · have := Nat.div_add_mod x (2 ^ j)
    rw [Nat.mul_comm] at this
    omega
end Go.Proofs.YbulkfzaDoor.Pop
