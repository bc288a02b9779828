/-
  Go's whole numbers: the engine's words for sums, shifts and bits, where nothing overflows.
-/
import Derived.Test.YtfokodpnoiilbaaGreatEng
namespace Go.Proofs.YtfokodpnoiilbaaGreat.E
open Go

theorem wrap_i64 {n : Int} (h1 : -9223372036854775808 ≤ n) (h2 : n < 9223372036854775808) : IntKind.wrap .i64 n = n := by
  simp only [IntKind.wrap, IntKind.bits, IntKind.signed, Bool.true_and]
  split
  · rename_i h; have h := of_decide_eq_true h; omega
  · rename_i h; have h := of_decide_eq_false (Bool.eq_false_iff.2 h); omega
theorem wrap_i32 {n : Int} (h1 : -2147483648 ≤ n) (h2 : n < 2147483648) : IntKind.wrap .i32 n = n := by
  simp only [IntKind.wrap, IntKind.bits, IntKind.signed, Bool.true_and]
  split
  · rename_i h; have h := of_decide_eq_true h; omega
  · rename_i h; have h := of_decide_eq_false (Bool.eq_false_iff.2 h); omega
theorem wrap_u64 {n : Int} (h1 : 0 ≤ n) (h2 : n < 18446744073709551616) : IntKind.wrap .u64 n = n := by
  simp only [IntKind.wrap, IntKind.bits, IntKind.signed]; simp; omega
theorem wrap_u32 {n : Int} (h1 : 0 ≤ n) (h2 : n < 4294967296) : IntKind.wrap .u32 n = n := by
  simp only [IntKind.wrap, IntKind.bits, IntKind.signed]; simp; omega
theorem wrap_u16 {n : Int} (h1 : 0 ≤ n) (h2 : n < 65536) : IntKind.wrap .u16 n = n := by
  simp only [IntKind.wrap, IntKind.bits, IntKind.signed]; simp; omega
theorem wrap_u8 {n : Int} (h1 : 0 ≤ n) (h2 : n < 256) : IntKind.wrap .u8 n = n := by
  simp only [IntKind.wrap, IntKind.bits, IntKind.signed]; simp; omega

/-- A wrapped number is the number, up to a multiple of whatever power of two its kind has room for. -/
theorem wrap_off (k : IntKind) (n : Int) (j : Nat) (hj : j ≤ k.bits) : ∃ t, k.wrap n = n + 2 ^ j * t := by
  obtain ⟨d, hd⟩ := Nat.exists_eq_add_of_le hj
  have hb : ∃ s, k.wrap n = n + 2 ^ k.bits * s := by
    simp only [IntKind.wrap]
    have := Int.mul_ediv_add_emod n (2 ^ k.bits)
    split
    · exact ⟨-(n / 2 ^ k.bits) - 1, by rw [Int.mul_sub, Int.mul_neg, Int.mul_one]; omega⟩
    · exact ⟨-(n / 2 ^ k.bits), by rw [Int.mul_neg]; omega⟩
  obtain ⟨s, hs⟩ := hb
  exact ⟨2 ^ d * s, by rw [hs, hd, Int.pow_add, Int.mul_assoc]⟩

theorem addI_i64 {a b : Int} (h1 : -9223372036854775808 ≤ a + b) (h2 : a + b < 9223372036854775808) : addI .i64 a b = a + b := wrap_i64 h1 h2
theorem subI_i64 {a b : Int} (h1 : -9223372036854775808 ≤ a - b) (h2 : a - b < 9223372036854775808) : subI .i64 a b = a - b := wrap_i64 h1 h2
theorem mulI_i64 {a b : Int} (h1 : -9223372036854775808 ≤ a * b) (h2 : a * b < 9223372036854775808) : mulI .i64 a b = a * b := (mulI_def _ _ _).trans (wrap_i64 h1 h2)
theorem addI_i32 {a b : Int} (h1 : -2147483648 ≤ a + b) (h2 : a + b < 2147483648) : addI .i32 a b = a + b := wrap_i32 h1 h2
theorem subI_i32 {a b : Int} (h1 : -2147483648 ≤ a - b) (h2 : a - b < 2147483648) : subI .i32 a b = a - b := wrap_i32 h1 h2
theorem mulI_i32 {a b : Int} (h1 : -2147483648 ≤ a * b) (h2 : a * b < 2147483648) : mulI .i32 a b = a * b := (mulI_def _ _ _).trans (wrap_i32 h1 h2)
theorem addI_u64 {a b : Int} (h1 : 0 ≤ a + b) (h2 : a + b < 18446744073709551616) : addI .u64 a b = a + b := wrap_u64 h1 h2
theorem subI_u64 {a b : Int} (h1 : 0 ≤ a - b) (h2 : a - b < 18446744073709551616) : subI .u64 a b = a - b := wrap_u64 h1 h2
theorem mulI_u64 {a b : Int} (h1 : 0 ≤ a * b) (h2 : a * b < 18446744073709551616) : mulI .u64 a b = a * b := (mulI_def _ _ _).trans (wrap_u64 h1 h2)
theorem quoI_i64 {a b : Int} (ha : 0 ≤ a) (hb : 0 < b) (h : a < 9223372036854775808) : quoI .i64 a b = a / b := by
  have h1 : a.tdiv b = a / b := Int.tdiv_eq_ediv_of_nonneg ha
  have h2 := Int.ediv_le_self b ha
  have h3 := Int.ediv_nonneg ha (Int.le_of_lt hb)
  unfold quoI; rw [h1, wrap_i64 (by omega) (by omega)]
theorem quoI_i32 {a b : Int} (ha : 0 ≤ a) (hb : 0 < b) (h : a < 2147483648) : quoI .i32 a b = a / b := by
  have h1 : a.tdiv b = a / b := Int.tdiv_eq_ediv_of_nonneg ha
  have h2 := Int.ediv_le_self b ha
  have h3 := Int.ediv_nonneg ha (Int.le_of_lt hb)
  unfold quoI; rw [h1, wrap_i32 (by omega) (by omega)]
theorem quoI_u64 {a b : Int} (ha : 0 ≤ a) (hb : 0 < b) (h : a < 18446744073709551616) : quoI .u64 a b = a / b := by
  have h1 : a.tdiv b = a / b := Int.tdiv_eq_ediv_of_nonneg ha
  have h2 := Int.ediv_le_self b ha
  have h3 := Int.ediv_nonneg ha (Int.le_of_lt hb)
  unfold quoI; rw [h1, wrap_u64 (by omega) (by omega)]
theorem remI_eq {a b : Int} (ha : 0 ≤ a) : remI a b = a % b := Int.tmod_eq_emod_of_nonneg ha

/-- A number's bits, as the kind has them. -/
theorem toNat_ofInt (k : IntKind) (n : Int) : (BitVec.ofInt k.bits n).toNat = (n % 2 ^ k.bits).toNat := by
  rw [BitVec.toNat_ofInt]; congr 1
theorem toNat_ofInt_nat (k : IntKind) (n : Nat) (h : n < 2 ^ k.bits) : (BitVec.ofInt k.bits (n : Int)).toNat = n := by
  rw [BitVec.toNat_ofInt, ← Int.natCast_emod, Int.toNat_natCast, Nat.mod_eq_of_lt h]

end Go.Proofs.YtfokodpnoiilbaaGreat.E
