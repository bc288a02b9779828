/-
  Words of 64 bits as natural numbers: the engine's bit words on them; the bits of a row of words.
-/
import Derived.Test.YtfokodpnoiilbaaGreatArith
namespace Go.Proofs.YtfokodpnoiilbaaGreat.E
open Go

theorem u64_toNat {n : Nat} (h : n < 18446744073709551616) : (BitVec.ofInt IntKind.u64.bits (n : Int)).toNat = n := toNat_ofInt_nat .u64 n h
theorem orI_nat {x y : Nat} (hx : x < 18446744073709551616) (hy : y < 18446744073709551616) : orI .u64 x y = ((x ||| y : Nat) : Int) := by
  have h : (x ||| y) < 2 ^ 64 := Nat.or_lt_two_pow hx hy
  unfold orI; rw [BitVec.toNat_or, u64_toNat hx, u64_toNat hy]; exact wrap_u64 (by omega) (by omega)
theorem andI_nat {x y : Nat} (hx : x < 18446744073709551616) (hy : y < 18446744073709551616) : andI .u64 x y = ((x &&& y : Nat) : Int) := by
  have h : (x &&& y) < 2 ^ 64 := Nat.and_lt_two_pow _ hy
  unfold andI; rw [BitVec.toNat_and, u64_toNat hx, u64_toNat hy]; exact wrap_u64 (by omega) (by omega)
theorem andI_i64_nat {x y : Nat} (hx : x < 9223372036854775808) (hy : y < 9223372036854775808) : andI .i64 x y = ((x &&& y : Nat) : Int) := by
  have h : (x &&& y) < 2 ^ 63 := Nat.and_lt_two_pow _ hy
  have e1 := toNat_ofInt_nat .i64 x (by show x < 2 ^ 64; omega)
  have e2 := toNat_ofInt_nat .i64 y (by show y < 2 ^ 64; omega)
  unfold andI; rw [BitVec.toNat_and, e1, e2]; exact wrap_i64 (by omega) (by omega)
theorem xorI_nat {x y : Nat} (hx : x < 18446744073709551616) (hy : y < 18446744073709551616) : xorI .u64 x y = ((x ^^^ y : Nat) : Int) := by
  have h : (x ^^^ y) < 2 ^ 64 := Nat.xor_lt_two_pow hx hy
  unfold xorI; rw [BitVec.toNat_xor, u64_toNat hx, u64_toNat hy]; exact wrap_u64 (by omega) (by omega)
theorem shl1_nat {j : Nat} (h : j < 64) : shlI .u64 1 j = ((2 ^ j : Nat) : Int) := by
  have hp : (2 : Nat) ^ j ≤ 2 ^ 63 := Nat.pow_le_pow_right (by decide) (by omega)
  rw [shlI_def]
  rw [Nat.min_eq_left (by show j ≤ 64; omega), Int.one_mul, show ((2 : Int) ^ j) = ((2 ^ j : Nat) : Int) by simp]
  generalize (2 : Nat) ^ j = m at *
  exact wrap_u64 (by omega) (by omega)
theorem shr_nat (k : IntKind) {x j : Nat} (h : j ≤ k.bits) : shrI k x j = ((x / 2 ^ j : Nat) : Int) := by
  unfold shrI; rw [Nat.min_eq_left h, Int.natCast_ediv]
  rw [Int.fdiv_eq_ediv_of_nonneg _ (by exact Int.le_of_lt (Int.pow_pos (by decide)))]; simp
theorem shr6 (x : Nat) : shrI .u64 x 6 = ((x / 64 : Nat) : Int) := shr_nat .u64 (by decide)
theorem and63 {x : Nat} (h : x < 18446744073709551616) : andI .u64 x 63 = ((x % 64 : Nat) : Int) := by
  have := andI_nat h (show 63 < 18446744073709551616 by decide)
  rw [show ((63 : Nat) : Int) = 63 from rfl] at this
  rw [this, show (63 : Nat) = 2 ^ 6 - 1 from rfl, Nat.and_two_pow_sub_one_eq_mod]

/-- The bit number i of a row of words. -/
def wbit (ws : List Nat) (i : Nat) : Bool := (ws.getD (i / 64) 0).testBit (i % 64)
theorem wbit_ge {ws : List Nat} {i : Nat} (h : ws.length ≤ i / 64) : wbit ws i = false := by
  unfold wbit; rw [List.getD_eq_getElem?_getD, List.getElem?_eq_none h]; simp
theorem wbit_set {ws : List Nat} {j x i : Nat} (h : j < ws.length) : wbit (ws.set j x) i = if i / 64 = j then x.testBit (i % 64) else wbit ws i := by
  unfold wbit
  by_cases e : i / 64 = j
  · subst e; simp [h]
  · rw [if_neg e, List.getD_eq_getElem?_getD, List.getElem?_set_ne (fun h => e h.symm), List.getD_eq_getElem?_getD]
theorem div_mod_64 {i j : Nat} : i / 64 = j / 64 ∧ i % 64 = j % 64 ↔ i = j := by omega
theorem wbit_or {ws : List Nat} {i j : Nat} (h : i / 64 < ws.length) : wbit (ws.set (i / 64) (ws.getD (i / 64) 0 ||| 2 ^ (i % 64))) j = (wbit ws j || decide (j = i)) := by
  rw [wbit_set h]
  by_cases e : j / 64 = i / 64
  · rw [if_pos e, Nat.testBit_or, Nat.testBit_two_pow]
    unfold wbit; rw [e]
    by_cases e2 : j = i
    · subst e2; simp
    · have : ¬ i % 64 = j % 64 := fun h => e2 (div_mod_64.1 ⟨e, h.symm⟩)
      simp [e2, this]
  · rw [if_neg e]
    have : j ≠ i := fun h => e (h ▸ rfl)
    simp [this]
theorem wbit_xor {ws : List Nat} {i j : Nat} (h : i / 64 < ws.length) : wbit (ws.set (i / 64) (ws.getD (i / 64) 0 ^^^ 2 ^ (i % 64))) j = (wbit ws j ^^ decide (j = i)) := by
  rw [wbit_set h]
  by_cases e : j / 64 = i / 64
  · rw [if_pos e, Nat.testBit_xor, Nat.testBit_two_pow]
    unfold wbit; rw [e]
    by_cases e2 : j = i
    · subst e2; simp
    · have : ¬ i % 64 = j % 64 := fun h => e2 (div_mod_64.1 ⟨e, h.symm⟩)
      simp [e2, this]
  · rw [if_neg e]
    have : j ≠ i := fun h => e (h ▸ rfl)
    simp [this]
theorem and_two_pow_ne {x j : Nat} : decide (x &&& 2 ^ j ≠ 0) = x.testBit j := by
  by_cases h : x.testBit j
  · rw [h]
    apply decide_eq_true
    intro e
    have := congrArg (fun n => Nat.testBit n j) e
    simp [h] at this
  · have h : x.testBit j = false := by simpa using h
    rw [h]
    apply decide_eq_false
    intro e
    apply e
    apply Nat.eq_of_testBit_eq
    intro i
    rw [Nat.testBit_and, Nat.testBit_two_pow]
    by_cases e : j = i
    · subst e; simp [h]
    · simp [e]
end Go.Proofs.YtfokodpnoiilbaaGreat.E
