/-
  Seat b0338aD: plain arithmetic, no Go in sight: the number of one bits of a natural number below 2^64, by Go's own steps (math/bits.OnesCount64).
-/
import Derived.Lib.BitFns
namespace Go.Proofs.YbulkfzaDoor.Pop

/-- One bits, 'f' bits looked at. -/
def pcA : Nat → Nat → Nat
  | 0, _ => 0
  | f + 1, x => x % 2 + pcA f (x / 2)

/-- The number of one bits below bit 64. -/
def pc (x : Nat) : Nat := pcA 64 x

theorem pcA_zero : ∀ f, pcA f 0 = 0
  | 0 => rfl
  | f + 1 => by simp [pcA, pcA_zero f]

theorem pcA_le : ∀ f x, pcA f x ≤ f
  | 0, _ => Nat.le_refl _
  | f + 1, x => by
    have := pcA_le f (x / 2)
    simp only [pcA]; omega

theorem pcA_add : ∀ f g x, pcA (f + g) x = pcA f (x % 2 ^ f) + pcA g (x / 2 ^ f)
  | 0, g, x => by simp [pcA]
  | f + 1, g, x => by
    have h := pcA_add f g (x / 2)
    have e1 : f + 1 + g = (f + g) + 1 := by omega
    have e2 : x % 2 ^ (f + 1) / 2 = x / 2 % 2 ^ f := by
      rw [Nat.pow_succ', Nat.mod_mul_right_div_self]
    have e3 : x % 2 ^ (f + 1) % 2 = x % 2 := by
      rw [Nat.pow_succ', Nat.mod_mul_right_mod]
    have e4 : x / 2 ^ (f + 1) = x / 2 / 2 ^ f := by
      rw [Nat.pow_succ', Nat.div_div_eq_div_mul]
    rw [e1]
    simp only [pcA]
    rw [h, e2, e3, e4]
    omega

theorem and_split (u m M : Nat) (hm : m < 256) : u &&& (m + 256 * M) = (u % 256 &&& m) + 256 * (u / 256 &&& M) := by
  have h1 : (u &&& (m + 256 * M)) % 2 ^ 8 = (u % 2 ^ 8) &&& ((m + 256 * M) % 2 ^ 8) := Nat.and_mod_two_pow
  have h2 : (u &&& (m + 256 * M)) / 2 ^ 8 = (u / 2 ^ 8) &&& ((m + 256 * M) / 2 ^ 8) := Nat.and_div_two_pow
  have e1 : (m + 256 * M) % 2 ^ 8 = m := by omega
  have e2 : (m + 256 * M) / 2 ^ 8 = M := by omega
  rw [e1] at h1
  rw [e2] at h2
  have := Nat.div_add_mod (u &&& (m + 256 * M)) (2 ^ 8)
  rw [h1, h2] at this
  simp only [Nat.reducePow] at this
  omega

/-- A mask of k bytes. -/
def mask (m : Nat) : Nat → Nat
  | 0 => 0
  | k + 1 => m + 256 * mask m k

theorem mask_succ (m k : Nat) : mask m (k + 1) = m + 256 * mask m k := rfl

def sA (k x : Nat) : Nat := (x / 2 &&& mask 85 k) + (x &&& mask 85 k)
def sB (k x : Nat) : Nat := (x / 4 &&& mask 51 k) + (x &&& mask 51 k)
def sC (k x : Nat) : Nat := (x / 16 + x) &&& mask 15 k

theorem low1 : ∀ y : Fin 512, (y.val / 2 % 256 &&& 85) = (y.val % 256 / 2 &&& 85) := by decide +kernel
theorem low2 : ∀ y : Fin 1024, (y.val / 4 % 256 &&& 51) = (y.val % 256 / 4 &&& 51) := by decide +kernel

def a8 (y : Nat) : Nat := (y / 2 &&& 85) + (y &&& 85)
def b8 (y : Nat) : Nat := (y / 4 &&& 51) + (y &&& 51)
def c8 (y : Nat) : Nat := (y / 16 + y) &&& 15

theorem a8_lt : ∀ y : Fin 256, a8 y.val < 256 := by decide +kernel
theorem b8_bd : ∀ y : Fin 256, b8 y.val ≤ 102 ∧ b8 (a8 y.val) ≤ 68 ∧ b8 (a8 y.val) % 16 ≤ 4 := by decide +kernel
theorem p8 : ∀ y : Fin 256, c8 (b8 (a8 y.val)) = pcA 8 y.val := by decide +kernel

theorem sA_succ (k x : Nat) : sA (k + 1) x = a8 (x % 256) + 256 * sA k (x / 256) := by
  unfold sA a8
  rw [mask_succ, and_split _ _ _ (by decide), and_split _ _ _ (by decide)]
  have h := low1 ⟨x % 512, by omega⟩
  simp only at h
  have e1 : x % 512 / 2 % 256 = x / 2 % 256 := by omega
  have e2 : x % 512 % 256 = x % 256 := by omega
  have e3 : x / 2 / 256 = x / 256 / 2 := by omega
  rw [e1, e2] at h
  rw [h, e3]
  omega

theorem sB_succ (k x : Nat) : sB (k + 1) x = b8 (x % 256) + 256 * sB k (x / 256) := by
  unfold sB b8
  rw [mask_succ, and_split _ _ _ (by decide), and_split _ _ _ (by decide)]
  have h := low2 ⟨x % 1024, by omega⟩
  simp only at h
  have e1 : x % 1024 / 4 % 256 = x / 4 % 256 := by omega
  have e2 : x % 1024 % 256 = x % 256 := by omega
  have e3 : x / 4 / 256 = x / 256 / 4 := by omega
  rw [e1, e2] at h
  rw [h, e3]
  omega

theorem sA_zero (x : Nat) : sA 0 x = 0 := by simp [sA, mask]
theorem sB_zero (x : Nat) : sB 0 x = 0 := by simp [sB, mask]
theorem sC_zero (x : Nat) : sC 0 x = 0 := by simp [sC, mask]

/-- Steps one and two together, a byte. -/
theorem sAB_succ (k x : Nat) : sB (k + 1) (sA (k + 1) x) = b8 (a8 (x % 256)) + 256 * sB k (sA k (x / 256)) := by
  rw [sB_succ, sA_succ]
  have h := a8_lt ⟨x % 256, by omega⟩
  simp only at h
  have e1 : (a8 (x % 256) + 256 * sA k (x / 256)) % 256 = a8 (x % 256) := by omega
  have e2 : (a8 (x % 256) + 256 * sA k (x / 256)) / 256 = sA k (x / 256) := by omega
  rw [e1, e2]

theorem sAB_nib : ∀ k x, sB k (sA k x) % 16 ≤ 4
  | 0, x => by simp [sB_zero]
  | k + 1, x => by
    have h := b8_bd ⟨x % 256, by omega⟩
    simp only at h
    rw [sAB_succ]
    omega

theorem and15 (y : Nat) : y &&& 15 = y % 16 := Nat.and_two_pow_sub_one_eq_mod y 4

theorem sABC_succ (k x : Nat) : sC (k + 1) (sB (k + 1) (sA (k + 1) x)) = pcA 8 (x % 256) + 256 * sC k (sB k (sA k (x / 256))) := by
  have h := b8_bd ⟨x % 256, by omega⟩
  have hp := p8 ⟨x % 256, by omega⟩
  have hn := sAB_nib k (x / 256)
  simp only at h hp
  rw [sAB_succ, ← hp]
  generalize b8 (a8 (x % 256)) = u at h ⊢
  generalize sB k (sA k (x / 256)) = v at hn ⊢
  unfold sC c8
  rw [mask_succ, and_split _ _ _ (by decide)]
  have e1 : ((u + 256 * v) / 16 + (u + 256 * v)) / 256 = v / 16 + v := by omega
  rw [e1, and15, and15]
  congr 1
  omega

theorem pcA8 (k x : Nat) : pcA (8 + k) x = pcA 8 (x % 256) + pcA k (x / 256) := pcA_add 8 k x

theorem div_of (c a b m : Nat) (ha : a < m) (h : c = a + m * b) : c / m = b := by
  subst h
  rw [Nat.add_mul_div_left _ _ (by omega), Nat.div_eq_of_lt ha]; omega

section
variable (p0 p1 p2 p3 p4 p5 p6 p7 : Nat)
theorem lin1 : p0 + 256 * (p1 + 256 * (p2 + 256 * (p3 + 256 * (p4 + 256 * (p5 + 256 * (p6 + 256 * p7)))))) + (p1 + 256 * (p2 + 256 * (p3 + 256 * (p4 + 256 * (p5 + 256 * (p6 + 256 * p7)))))) = ((p0 + p1) + 256 * (p1 + p2)) + 65536 * ((p2 + p3) + 256 * ((p3 + p4) + 256 * ((p4 + p5) + 256 * ((p5 + p6) + 256 * ((p6 + p7) + 256 * p7))))) := by omega
theorem lin2 : ((p0 + p1) + 256 * (p1 + p2)) + 65536 * ((p2 + p3) + 256 * ((p3 + p4) + 256 * ((p4 + p5) + 256 * ((p5 + p6) + 256 * ((p6 + p7) + 256 * p7))))) + ((p2 + p3) + 256 * ((p3 + p4) + 256 * ((p4 + p5) + 256 * ((p5 + p6) + 256 * ((p6 + p7) + 256 * p7)))))
    = ((p0 + p1 + p2 + p3) + 256 * ((p1 + p2 + p3 + p4) + 256 * ((p2 + p3 + p4 + p5) + 256 * (p3 + p4 + p5 + p6)))) + 4294967296 * ((p4 + p5 + p6 + p7) + 256 * ((p5 + p6 + p7) + 256 * ((p6 + p7) + 256 * p7))) := by omega
theorem lin3 : ((p0 + p1 + p2 + p3) + 256 * ((p1 + p2 + p3 + p4) + 256 * ((p2 + p3 + p4 + p5) + 256 * (p3 + p4 + p5 + p6)))) + 4294967296 * ((p4 + p5 + p6 + p7) + 256 * ((p5 + p6 + p7) + 256 * ((p6 + p7) + 256 * p7))) + ((p4 + p5 + p6 + p7) + 256 * ((p5 + p6 + p7) + 256 * ((p6 + p7) + 256 * p7)))
    = (p0 + p1 + p2 + p3 + p4 + p5 + p6 + p7) + 256 * ((p1 + p2 + p3 + p4 + p5 + p6 + p7) + 256 * ((p2 + p3 + p4 + p5 + p6 + p7) + 256 * ((p3 + p4 + p5 + p6 + p7) + 256 * ((p4 + p5 + p6 + p7) + 256 * ((p5 + p6 + p7) + 256 * ((p6 + p7) + 256 * p7)))))) := by omega
theorem bd2 (h0 : p0 ≤ 8) (h1 : p1 ≤ 8) (h2 : p2 ≤ 8) : (p0 + p1) + 256 * (p1 + p2) < 65536 := by omega
theorem bd3 (h0 : p0 ≤ 8) (h1 : p1 ≤ 8) (h2 : p2 ≤ 8) (h3 : p3 ≤ 8) (h4 : p4 ≤ 8) (h5 : p5 ≤ 8) (h6 : p6 ≤ 8) : ((p0 + p1 + p2 + p3) + 256 * ((p1 + p2 + p3 + p4) + 256 * ((p2 + p3 + p4 + p5) + 256 * (p3 + p4 + p5 + p6)))) < 4294967296 := by omega
theorem bd4 (h0 : p0 ≤ 8) (h1 : p1 ≤ 8) (h2 : p2 ≤ 8) (h3 : p3 ≤ 8) (h4 : p4 ≤ 8) (h5 : p5 ≤ 8) (h6 : p6 ≤ 8) (h7 : p7 ≤ 8) : (p0 + p1 + p2 + p3 + p4 + p5 + p6 + p7) + 256 * ((p1 + p2 + p3 + p4 + p5 + p6 + p7) + 256 * ((p2 + p3 + p4 + p5 + p6 + p7) + 256 * ((p3 + p4 + p5 + p6 + p7) + 256 * ((p4 + p5 + p6 + p7) + 256 * ((p5 + p6 + p7) + 256 * ((p6 + p7) + 256 * p7)))))) < 18446744073709551616 := by omega
end
theorem last8 (s Z : Nat) (h : s ≤ 64) : (s + 256 * Z) % 128 = s := by omega

/-- Go's steps behind the three masks, on eight bytes. -/
theorem fold8 (p0 p1 p2 p3 p4 p5 p6 p7 : Nat) (h0 : p0 ≤ 8) (h1 : p1 ≤ 8) (h2 : p2 ≤ 8) (h3 : p3 ≤ 8) (h4 : p4 ≤ 8) (h5 : p5 ≤ 8) (h6 : p6 ≤ 8) (h7 : p7 ≤ 8)
    (c d e f : Nat) (hc : c = p0 + 256 * (p1 + 256 * (p2 + 256 * (p3 + 256 * (p4 + 256 * (p5 + 256 * (p6 + 256 * p7))))))) (hd : d = c + c / 256) (he : e = d + d / 65536) (hf : f = e + e / 4294967296) :
    f % 128 = p0 + p1 + p2 + p3 + p4 + p5 + p6 + p7 ∧ f < 18446744073709551616 ∧ d < 18446744073709551616 ∧ e < 18446744073709551616 := by
  rw [div_of c p0 _ 256 (by clear hc hd he hf; omega) hc, hc, lin1] at hd
  rw [div_of d _ _ 65536 (bd2 p0 p1 p2 h0 h1 h2) hd, hd, lin2] at he
  rw [div_of e _ _ 4294967296 (bd3 p0 p1 p2 p3 p4 p5 p6 h0 h1 h2 h3 h4 h5 h6) he, he, lin3] at hf
  have g := bd4 p0 p1 p2 p3 p4 p5 p6 p7 h0 h1 h2 h3 h4 h5 h6 h7
  rw [← hf] at g
  have l1 : e ≤ f := by rw [hf, ← lin3, ← he]; exact Nat.le_add_right _ _
  have l2 : d ≤ e := by rw [he, ← lin2, ← hd]; exact Nat.le_add_right _ _
  refine ⟨?_, g, Nat.lt_of_le_of_lt (Nat.le_trans l2 l1) g, Nat.lt_of_le_of_lt l1 g⟩
  rw [hf]
  exact last8 _ _ (by clear hc hd he hf g l1 l2; omega)

theorem pc_go (x : Nat) (a b c d e f : Nat) (ha : a = sA 8 x) (hb : b = sB 8 a) (hc : c = sC 8 b) (hd : d = c + c / 256) (he : e = d + d / 65536) (hf : f = e + e / 4294967296) :
    f % 128 = pc x ∧ f < 18446744073709551616 ∧ d < 18446744073709551616 ∧ e < 18446744073709551616 := by
  subst ha; subst hb
  rw [sABC_succ 7, sABC_succ 6, sABC_succ 5, sABC_succ 4, sABC_succ 3, sABC_succ 2, sABC_succ 1, sABC_succ 0, sC_zero, Nat.mul_zero, Nat.add_zero] at hc
  have hx : pc x = pcA 8 (x % 256) + (pcA 8 (x / 256 % 256) + (pcA 8 (x / 256 / 256 % 256) + (pcA 8 (x / 256 / 256 / 256 % 256) + (pcA 8 (x / 256 / 256 / 256 / 256 % 256) + (pcA 8 (x / 256 / 256 / 256 / 256 / 256 % 256) + (pcA 8 (x / 256 / 256 / 256 / 256 / 256 / 256 % 256) + (pcA 8 (x / 256 / 256 / 256 / 256 / 256 / 256 / 256 % 256)))))))) := by
    unfold pc
    rw [pcA8 56 x, pcA8 48 (x / 256), pcA8 40 (x / 256 / 256), pcA8 32 (x / 256 / 256 / 256), pcA8 24 (x / 256 / 256 / 256 / 256), pcA8 16 (x / 256 / 256 / 256 / 256 / 256), pcA8 8 (x / 256 / 256 / 256 / 256 / 256 / 256), pcA8 0 (x / 256 / 256 / 256 / 256 / 256 / 256 / 256)]
    rfl
  have l := pcA_le 8
  obtain ⟨r1, r2, r3, r4⟩ := fold8 _ _ _ _ _ _ _ _ (l _) (l _) (l _) (l _) (l _) (l _) (l _) (l _) c d e f hc hd he hf
  refine ⟨?_, r2, r3, r4⟩
  rw [r1, hx]
  clear hc hd he hf r1 r2 r3 r4
  omega
end Go.Proofs.YbulkfzaDoor.Pop
