/-
  Counting bits: the sum of sums within a word of 64 bits (math/bits.OnesCount64) is how many of its bits are set; no program in sight.
-/
import Derived.KernelRfl
namespace Go.Proofs.Ytooejhmelodiaaa.E

/-- How many of the first n are. -/
def cnt : Nat → (Nat → Bool) → Nat
  | 0, _ => 0
  | n + 1, f => cnt n f + (f n).toNat
theorem cnt_add (a b : Nat) (f : Nat → Bool) : cnt (a + b) f = cnt a f + cnt b (fun i => f (a + i)) := by
  induction b with
  | zero => rfl
  | succ b ih => rw [← Nat.add_assoc]; simp only [cnt]; rw [ih, Nat.add_assoc]
theorem cnt_congr {n : Nat} {f g : Nat → Bool} (h : ∀ i, i < n → f i = g i) : cnt n f = cnt n g := by
  induction n with
  | zero => rfl
  | succ n ih => simp only [cnt]; rw [ih (fun i hi => h i (by omega)), h n (by omega)]
theorem cnt_le (n : Nat) (f : Nat → Bool) : cnt n f ≤ n := by
  induction n with
  | zero => exact Nat.le_refl _
  | succ n ih => simp only [cnt]; have : (f n).toNat ≤ 1 := by cases f n <;> decide
                 omega

theorem and_split (x M : Nat) : x &&& M = (x % 256 &&& M % 256) + 256 * (x / 256 &&& M / 256) := by
  have h1 : (x &&& M) % 256 = x % 256 &&& M % 256 := Nat.and_mod_two_pow (n := 8)
  have h2 : (x &&& M) / 256 = x / 256 &&& M / 256 := Nat.and_div_two_pow (n := 8)
  rw [← h1, ← h2]
  exact (Nat.mod_add_div _ _).symm
/-- The mask of n bytes m. -/
def msk (m : Nat) : Nat → Nat
  | 0 => 0
  | n + 1 => m + 256 * msk m n
theorem msk_mod {m : Nat} (h : m < 256) (n : Nat) : msk m (n + 1) % 256 = m := by simp only [msk]; omega
theorem msk_div {m : Nat} (h : m < 256) (n : Nat) : msk m (n + 1) / 256 = msk m n := by simp only [msk]; omega

def stA (n x : Nat) : Nat := (x / 2 &&& msk 85 n) + (x &&& msk 85 n)
def stB (n x : Nat) : Nat := (x / 4 &&& msk 51 n) + (x &&& msk 51 n)
def stC (n x : Nat) : Nat := (x / 16 + x) &&& msk 15 n
def bA (v : Nat) : Nat := (v / 2 &&& 85) + (v &&& 85)
def bB (v : Nat) : Nat := (v / 4 &&& 51) + (v &&& 51)
def bC (v : Nat) : Nat := (v / 16 + v) % 16
theorem and85 : ∀ v, v < 256 → ∀ c, c < 2 → (v / 2 + 128 * c) &&& 85 = v / 2 &&& 85 := by decide +kernel
theorem and51 : ∀ v, v < 256 → ∀ c, c < 4 → (v / 4 + 64 * c) &&& 51 = v / 4 &&& 51 := by decide +kernel
theorem stA_succ (n x : Nat) : stA (n + 1) x = bA (x % 256) + 256 * stA n (x / 256) := by
  unfold stA bA
  rw [and_split (x / 2), and_split x, msk_mod (by decide), msk_div (by decide)]
  have h1 : x / 2 / 256 = x / 256 / 2 := by omega
  have h2 : x / 2 % 256 = x % 256 / 2 + 128 * (x / 256 % 2) := by omega
  rw [h1, h2, and85 _ (by omega) _ (by omega)]
  omega
theorem stB_succ (n x : Nat) : stB (n + 1) x = bB (x % 256) + 256 * stB n (x / 256) := by
  unfold stB bB
  rw [and_split (x / 4), and_split x, msk_mod (by decide), msk_div (by decide)]
  have h1 : x / 4 / 256 = x / 256 / 4 := by omega
  have h2 : x / 4 % 256 = x % 256 / 4 + 64 * (x / 256 % 4) := by omega
  rw [h1, h2, and51 _ (by omega) _ (by omega)]
  omega
/-- Each half byte is at most 4. -/
def low : Nat → Nat → Prop
  | 0, _ => True
  | n + 1, x => x % 16 ≤ 4 ∧ x / 16 % 16 ≤ 4 ∧ low n (x / 256)
theorem stC_succ (n x : Nat) (h : low (n + 1) x) (h' : x / 256 % 16 ≤ 4) : stC (n + 1) x = bC (x % 256) + 256 * stC n (x / 256) := by
  unfold stC bC
  obtain ⟨h1, h2, _⟩ := h
  rw [and_split, msk_mod (by decide), msk_div (by decide)]
  have e0 : x / 16 / 16 = x / 256 := Nat.div_div_eq_div_mul x 16 16
  have e1 : (x / 16 + x) / 256 = x / 256 / 16 + x / 256 := by omega
  have e2 : (x / 16 + x) % 256 &&& 15 = (x % 256 / 16 + x % 256) % 16 := by
    have : (x / 16 + x) % 256 &&& 15 = (x / 16 + x) % 256 % 16 := Nat.and_two_pow_sub_one_eq_mod _ 4
    rw [this]; omega
  rw [e1, e2]
theorem bAB : ∀ v, v < 256 → bA v < 256 ∧ bB (bA v) < 256 ∧ bB (bA v) % 16 ≤ 4 ∧ bB (bA v) / 16 ≤ 4 ∧ bC (bB (bA v)) = cnt 8 v.testBit := by decide +kernel

/-- The first two steps, byte by byte; what the bytes become. -/
theorem stAB_succ (n x : Nat) : stB (n + 1) (stA (n + 1) x) = bB (bA (x % 256)) + 256 * stB n (stA n (x / 256)) := by
  have h := bAB (x % 256) (by omega)
  have hA := stA_succ n x
  have e1 : stA (n + 1) x % 256 = bA (x % 256) := by omega
  have e2 : stA (n + 1) x / 256 = stA n (x / 256) := by omega
  rw [stB_succ, e1, e2]
theorem low_AB : ∀ n x, low n (stB n (stA n x)) ∧ stB n (stA n x) % 16 ≤ 4
  | 0, x => ⟨trivial, by simp [stB, msk]⟩
  | n + 1, x => by
    have h := bAB (x % 256) (by omega)
    have ih := low_AB n (x / 256)
    have hs := stAB_succ n x
    generalize stB (n + 1) (stA (n + 1) x) = y at *
    have e1 : y / 256 = stB n (stA n (x / 256)) := by omega
    refine ⟨⟨by omega, by omega, ?_⟩, by omega⟩
    rw [e1]; exact ih.1
theorem swar_succ (n x : Nat) : stC (n + 1) (stB (n + 1) (stA (n + 1) x)) = cnt 8 (x % 256).testBit + 256 * stC n (stB n (stA n (x / 256))) := by
  have h := bAB (x % 256) (by omega)
  have hl := (low_AB (n + 1) x).1
  have ih := low_AB n (x / 256)
  have hs := stAB_succ n x
  generalize stB (n + 1) (stA (n + 1) x) = y at *
  have e1 : y / 256 = stB n (stA n (x / 256)) := by omega
  have e2 : y % 256 = bB (bA (x % 256)) := by omega
  rw [stC_succ n y hl (by rw [e1]; exact ih.2), e1, e2, h.2.2.2.2]

def pop8 (x k : Nat) : Nat := cnt 8 (x / 256 ^ k % 256).testBit
theorem pop8_le (x k : Nat) : pop8 x k ≤ 8 := cnt_le _ _
theorem swar8 (x : Nat) : stC 8 (stB 8 (stA 8 x)) = pop8 x 0 + 256 * (pop8 x 1 + 256 * (pop8 x 2 + 256 * (pop8 x 3 + 256 * (pop8 x 4 + 256 * (pop8 x 5 + 256 * (pop8 x 6 + 256 * pop8 x 7)))))) := by
  have z : ∀ y, stC 0 (stB 0 (stA 0 y)) = 0 := fun y => by simp [stC, msk]
  simp only [swar_succ, z, pop8, Nat.div_div_eq_div_mul]
  simp
theorem testBit_div (x k i : Nat) (h : i < 8) : (x / 256 ^ k % 256).testBit i = x.testBit (8 * k + i) := by
  rw [show (256 : Nat) = 2 ^ 8 from rfl, Nat.testBit_mod_two_pow, ← Nat.pow_mul, Nat.testBit_div_two_pow]
  simp [h, Nat.add_comm]
theorem cnt64 (x : Nat) : cnt 64 x.testBit = pop8 x 0 + pop8 x 1 + pop8 x 2 + pop8 x 3 + pop8 x 4 + pop8 x 5 + pop8 x 6 + pop8 x 7 := by
  have e : ∀ k, cnt 8 (fun i => x.testBit (8 * k + i)) = pop8 x k := fun k => cnt_congr fun i hi => (testBit_div x k i hi).symm
  have s : ∀ n, cnt (8 * (n + 1)) x.testBit = cnt (8 * n) x.testBit + pop8 x n := fun n => by rw [Nat.mul_succ, cnt_add, e n]
  have h0 : cnt 0 x.testBit = 0 := rfl
  have h1 : cnt 8 x.testBit = cnt 0 x.testBit + pop8 x 0 := s 0
  have h2 : cnt 16 x.testBit = cnt 8 x.testBit + pop8 x 1 := s 1
  have h3 : cnt 24 x.testBit = cnt 16 x.testBit + pop8 x 2 := s 2
  have h4 : cnt 32 x.testBit = cnt 24 x.testBit + pop8 x 3 := s 3
  have h5 : cnt 40 x.testBit = cnt 32 x.testBit + pop8 x 4 := s 4
  have h6 : cnt 48 x.testBit = cnt 40 x.testBit + pop8 x 5 := s 5
  have h7 : cnt 56 x.testBit = cnt 48 x.testBit + pop8 x 6 := s 6
  have h8 : cnt 64 x.testBit = cnt 56 x.testBit + pop8 x 7 := s 7
  omega
/-- The last steps: the bytes' sum. -/
theorem last_sum {a b c d e f g h r1 r2 r3 r4 r5 r6 : Nat} (ha : a ≤ 8) (hb : b ≤ 8) (hc : c ≤ 8) (hd : d ≤ 8) (he : e ≤ 8) (hf : f ≤ 8) (hg : g ≤ 8) (hh : h ≤ 8)
    (e6 : r6 = g + 256 * h) (e5 : r5 = f + 256 * r6) (e4 : r4 = e + 256 * r5) (e3 : r3 = d + 256 * r4) (e2 : r2 = c + 256 * r3) (e1 : r1 = b + 256 * r2) {x y z u : Nat}
    (hx : x = a + 256 * r1) (hy : y = x + x / 256) (hz : z = y + y / 65536) (hu : u = z + z / 4294967296) :
    u % 128 = a + b + c + d + e + f + g + h ∧ y < 18446744073709551616 ∧ z < 18446744073709551616 ∧ u < 9223372036854775808 := by
  have b6 : r6 ≤ 8 * 257 := by omega
  have b5 : r5 ≤ 8 * 65793 := by omega
  have b4 : r4 ≤ 8 * 16843009 := by omega
  have b3 : r3 ≤ 8 * 4311810305 := by omega
  have b2 : r2 ≤ 8 * 1103823438081 := by omega
  have b1 : r1 ≤ 8 * 282578800148737 := by omega
  have hx1 : x / 256 = r1 := by
    subst hx; rw [Nat.add_mul_div_left _ _ (by decide), Nat.div_eq_of_lt (by omega), Nat.zero_add]
  rw [hx1] at hy
  have hy1 : y / 65536 = r2 + r3 := by
    have : y = (a + b + 256 * (b + c)) + 65536 * (r2 + r3) := by omega
    rw [this, Nat.add_mul_div_left _ _ (by decide), Nat.div_eq_of_lt (by omega), Nat.zero_add]
  rw [hy1] at hz
  have hz1 : z / 4294967296 = r4 + r5 + r6 + h := by
    have : z = ((a + b + c + d) + 256 * (b + c + d + e) + 65536 * (c + d + e + f) + 16777216 * (d + e + f + g)) + 4294967296 * (r4 + r5 + r6 + h) := by omega
    rw [this, Nat.add_mul_div_left _ _ (by decide), Nat.div_eq_of_lt (by omega), Nat.zero_add]
  rw [hz1] at hu
  have hu1 : u = (a + b + c + d + e + f + g + h) + 128 * (2 * (r1 + r2 + r3 + r4 + r5 + r6 + h)) := by omega
  refine ⟨?_, by omega, by omega, by omega⟩
  rw [hu1, Nat.add_mul_mod_self_left, Nat.mod_eq_of_lt (by omega)]
/-- The whole: how many bits of x are set. -/
theorem swar {x y z u : Nat} (hy : y = stC 8 (stB 8 (stA 8 x)) + stC 8 (stB 8 (stA 8 x)) / 256) (hz : z = y + y / 65536) (hu : u = z + z / 4294967296) :
    u % 128 = cnt 64 x.testBit ∧ y < 18446744073709551616 ∧ z < 18446744073709551616 ∧ u < 9223372036854775808 := by
  rw [cnt64]
  exact last_sum (pop8_le x 0) (pop8_le x 1) (pop8_le x 2) (pop8_le x 3) (pop8_le x 4) (pop8_le x 5) (pop8_le x 6) (pop8_le x 7) rfl rfl rfl rfl rfl rfl (swar8 x) hy hz hu
end Go.Proofs.Ytooejhmelodiaaa.E
