/-
  Whole numbers as floats: converted, compared, converted back.
-/
import Derived.Test.YtlbeelgfpbkdbaaEng
import Derived.Laws.FloatArith
namespace Go.Proofs.Ytlbeelgfpbkdbaa.E
open Go
set_option linter.unusedSimpArgs false
set_option linter.unusedVariables false
set_option maxRecDepth 100000

/-- A whole number's bits as a float. -/
def fB (n : Int) : Nat := floatOfInt .f64 n
theorem fB_def (n : Int) : fB n = Ieee.double.nearest (decide (n < 0)) n.natAbs 0 := rfl
theorem cut0 (w : Ieee.Toward) (s : Bool) (n : Nat) (hw : w = .even ∨ w = .zero) : w.cut s n 0 = n := by
  have h1 : (1 <<< min 0 (n.log2 + 2)) = 1 := by simp
  unfold Ieee.Toward.cut
  rw [h1]
  rcases hw with rfl | rfl
  · simp [Nat.mod_one]
  · simp [Nat.mod_one]
theorem rung_read {s : Bool} {r : Nat} (h1 : 4503599627370496 ≤ r) (h2 : r < 9218868437227405312) :
    Ieee.double.read (Ieee.double.word s r) = .number s (4503599627370496 + r % 4503599627370496) (-1074 + (r / 4503599627370496 - 1 : Nat)) := by
  have hs : Ieee.double.signWeight = 9223372036854775808 := by decide
  have hb : Ieee.double.binade = 4503599627370496 := by decide
  have hi : Ieee.double.infRung = 9218868437227405312 := by decide
  have hl : Ieee.double.leastPlace = -1074 := by decide
  unfold Ieee.Format.read Ieee.Format.word
  rw [hs, hb, hi, hl]
  cases s
  · simp only [Bool.false_eq_true, if_false]
    rw [Nat.mod_eq_of_lt (show r < 9223372036854775808 by omega), if_neg (by omega), if_pos h2, Nat.div_eq_of_lt (show r < 9223372036854775808 by omega)]
    rfl
  · simp only [if_true]
    rw [show (9223372036854775808 + r) % 9223372036854775808 = r by omega, if_neg (by omega), if_pos h2, show (9223372036854775808 + r) / 9223372036854775808 = 1 by omega]
    rfl
/-- What a float of a whole number reads as. -/
theorem read_fB {n : Int} (h : n.natAbs < 9007199254740992) : ∃ s m p, Ieee.double.read (fB n) = .number s m p ∧ p ≤ 0 ∧ Ieee.signed s m 0 = n * 2 ^ (-p).toNat ∧ (m = 0 ∨ (-p).toNat < m.log2 + 2) := by
  rw [fB_def]
  by_cases h0 : n.natAbs = 0
  · have hn : n = 0 := by omega
    subst hn
    refine ⟨false, 0, -1074, by decide, by decide, by rw [Int.zero_mul]; rfl, .inl rfl⟩
  generalize hm : n.natAbs = m at *
  have g1 : 2 ^ m.log2 ≤ m := Nat.log2_self_le h0
  have g2 : m < 2 ^ (m.log2 + 1) := Nat.lt_log2_self
  generalize hL : m.log2 = L at *
  have hL52 : L ≤ 52 := by
    rcases Nat.lt_or_ge 52 L with h' | h'
    · have := Nat.pow_le_pow_right (show 0 < 2 by decide) (show 53 ≤ L by omega)
      have h2 : (2 : Nat) ^ 53 = 9007199254740992 := by rfl
      omega
    · exact h'
  have hw : Ieee.double.nearest (decide (n < 0)) m 0 = Ieee.double.word (decide (n < 0)) ((L + 1022) * 4503599627370496 + m * 2 ^ (52 - L)) := by
    have hb : Ieee.double.binade = 4503599627370496 := by decide
    have hi : Ieee.double.infRung = 9218868437227405312 := by decide
    have hl : Ieee.double.leastPlace = -1074 := by decide
    have hf : (Ieee.double.fractionBits : Int) = 52 := by decide
    unfold Ieee.Format.nearest
    rw [if_neg h0, hb, hi, hl, hL, hf]
    have e1 : max (0 + (L : Int) - 52) (-1074) = (L : Int) - 52 := by omega
    simp only [e1]
    have e2 : (0 - ((L : Int) - 52)).toNat = 52 - L := by omega
    have e3 : ((L : Int) - 52 - 0).toNat = 0 := by omega
    have e4 : ((L : Int) - 52 - -1074).toNat = L + 1022 := by omega
    rw [e2, e3, e4, cut0 _ _ _ (.inl rfl), Nat.shiftLeft_eq]
    congr 1
    refine Nat.min_eq_left ?_
    have : m * 2 ^ (52 - L) < 2 ^ (L + 1) * 2 ^ (52 - L) := Nat.mul_lt_mul_of_pos_right g2 (Nat.pow_pos (by decide))
    rw [← Nat.pow_add, show L + 1 + (52 - L) = 53 by omega] at this
    have h2 : (2 : Nat) ^ 53 = 9007199254740992 := by rfl
    rw [h2] at this
    generalize m * 2 ^ (52 - L) = K at this ⊢
    omega
  have k1 : 4503599627370496 ≤ m * 2 ^ (52 - L) := by
    have : 2 ^ L * 2 ^ (52 - L) ≤ m * 2 ^ (52 - L) := Nat.mul_le_mul_right _ g1
    rw [← Nat.pow_add, show L + (52 - L) = 52 by omega] at this
    have h2 : (2 : Nat) ^ 52 = 4503599627370496 := by decide
    rw [h2] at this
    exact this
  have k2 : m * 2 ^ (52 - L) < 9007199254740992 := by
    have : m * 2 ^ (52 - L) < 2 ^ (L + 1) * 2 ^ (52 - L) := Nat.mul_lt_mul_of_pos_right g2 (Nat.pow_pos (by decide))
    rw [← Nat.pow_add, show L + 1 + (52 - L) = 53 by omega] at this
    have h2 : (2 : Nat) ^ 53 = 9007199254740992 := by rfl
    rw [h2] at this
    exact this
  rw [hw]
  generalize hK : m * 2 ^ (52 - L) = K at *
  rw [rung_read (by omega) (by omega)]
  have e5 : 4503599627370496 + ((L + 1022) * 4503599627370496 + K) % 4503599627370496 = K := by omega
  have e6 : ((L + 1022) * 4503599627370496 + K) / 4503599627370496 - 1 = L + 1022 := by omega
  rw [e5, e6]
  refine ⟨decide (n < 0), K, _, rfl, by omega, ?_, .inr ?_⟩
  · have e7 : (-(-1074 + ((L + 1022 : Nat) : Int))).toNat = 52 - L := by omega
    rw [e7]
    have e8 : n * 2 ^ (52 - L) = n * ((2 ^ (52 - L) : Nat) : Int) := by rw [Int.natCast_pow]; rfl
    rw [e8]
    unfold Ieee.signed
    rw [Nat.shiftLeft_zero, ← hK]
    by_cases hneg : n < 0
    · rw [decide_eq_true hneg, if_pos rfl, Int.natCast_mul, show n = -(m : Int) by omega, Int.neg_mul]
    · rw [decide_eq_false hneg, if_neg (by decide), Int.natCast_mul, show n = (m : Int) by omega]
  · have : 52 ≤ K.log2 := by
      rcases Nat.lt_or_ge K.log2 52 with h' | h'
      · have h3 : K < 2 ^ (K.log2 + 1) := Nat.lt_log2_self
        have h4 := Nat.pow_le_pow_right (show 0 < 2 by decide) (show K.log2 + 1 ≤ 52 by omega)
        have h2 : (2 : Nat) ^ 52 = 4503599627370496 := by decide
        omega
      · exact h'
    omega
theorem signed_shift (s : Bool) (m k : Nat) : Ieee.signed s m k = Ieee.signed s m 0 * 2 ^ k := by
  have e : (((m * 2 ^ k : Nat)) : Int) = (m : Int) * 2 ^ k := by rw [Int.natCast_mul, Int.natCast_pow]; rfl
  unfold Ieee.signed
  rw [Nat.shiftLeft_eq, Nat.shiftLeft_zero]
  cases s
  · simp only [Bool.false_eq_true, if_false]; exact e
  · simp only [if_true]; rw [e, Int.neg_mul]
theorem cmp_mul (a b : Int) (k : Nat) : compare (a * 2 ^ k) (b * 2 ^ k) = compare a b := by
  have hk : (0 : Int) < 2 ^ k := Int.pow_pos (by decide)
  have h : ∀ x y : Int, (x * 2 ^ k < y * 2 ^ k) ↔ x < y := fun x y => Int.mul_lt_mul_right hk
  rcases Int.lt_trichotomy a b with hl | he | hg
  · rw [Int.compare_eq_lt.2 hl, Int.compare_eq_lt.2 ((h a b).2 hl)]
  · subst he; rw [Int.compare_eq_eq.2 rfl, Int.compare_eq_eq.2 rfl]
  · rw [Int.compare_eq_gt.2 hg, Int.compare_eq_gt.2 ((h b a).2 hg)]
theorem order_fB {a b : Int} (ha : a.natAbs < 9007199254740992) (hb : b.natAbs < 9007199254740992) : FloatKind.f64.format.order (fB a) (fB b) = some (compare a b) := by
  obtain ⟨s, m, p, h1, h2, h3, _⟩ := read_fB ha
  obtain ⟨t, n, q, g1, g2, g3, _⟩ := read_fB hb
  show (Ieee.double.read (fB a)).order (Ieee.double.read (fB b)) = _
  rw [h1, g1]
  show some (compare (Ieee.signed s m (p - min p q).toNat) (Ieee.signed t n (q - min p q).toNat)) = _
  rw [signed_shift s m, signed_shift t n, h3, g3, Int.mul_assoc, Int.mul_assoc, ← Int.pow_add, ← Int.pow_add]
  rw [show (-p).toNat + (p - min p q).toNat = (-(min p q)).toNat by omega, show (-q).toNat + (q - min p q).toNat = (-(min p q)).toNat by omega, cmp_mul]
theorem toInt_fB {n : Int} (h : n.natAbs < 9007199254740992) : floatToIntVal .f64 (fB n) .i64 = some n := by
  obtain ⟨s, m, p, h1, h2, h3, h4⟩ := read_fB h
  unfold floatToIntVal
  have hd : FloatKind.f64.decode (fB n) = .number s m p := h1
  have hcut : Ieee.signed s ((Ieee.Toward.zero).cut s (m <<< p.toNat) (-p).toNat) 0 = n := by
    have hp0 : p.toNat = 0 := by omega
    rw [hp0, Nat.shiftLeft_zero]
    unfold Ieee.Toward.cut
    simp only [Bool.toNat_false, Nat.add_zero]
    have hk : (0 : Int) < 2 ^ (-p).toNat := Int.pow_pos (by decide)
    have hkn : 0 < 2 ^ (-p).toNat := Nat.pow_pos (by decide)
    rcases h4 with h4 | h4
    · subst h4
      have : n = 0 := by
        have h3' : (0 : Int) = n * 2 ^ (-p).toNat := by rw [← h3]; cases s <;> simp [Ieee.signed]
        rcases Int.mul_eq_zero.1 h3'.symm with h | h
        · exact h
        · omega
      subst this
      cases s <;> simp [Ieee.signed]
    · rw [Nat.min_eq_left (by omega), Nat.shiftLeft_eq, Nat.one_mul]
      have hmn : (m : Int) = (n.natAbs : Int) * 2 ^ (-p).toNat := by
        have := congrArg Int.natAbs h3
        rw [Int.natAbs_mul] at this
        have e1 : (Ieee.signed s m 0).natAbs = m := by cases s <;> simp [Ieee.signed]
        have e2 : ((2 : Int) ^ (-p).toNat).natAbs = 2 ^ (-p).toNat := by rw [Int.natAbs_pow]; rfl
        rw [e1, e2] at this
        rw [this, Int.natCast_mul, Int.natCast_pow]; rfl
      have hmn' : m = n.natAbs * 2 ^ (-p).toNat := by
        have e : ((n.natAbs * 2 ^ (-p).toNat : Nat) : Int) = (n.natAbs : Int) * 2 ^ (-p).toNat := by rw [Int.natCast_mul, Int.natCast_pow]; rfl
        omega
      rw [hmn', Nat.mul_div_cancel _ hkn]
      unfold Ieee.signed at h3 ⊢
      rw [Nat.shiftLeft_zero] at h3 ⊢
      cases s
      · simp only [Bool.false_eq_true, if_false] at h3 ⊢
        have : 0 ≤ n := by
          rcases Int.lt_or_le n 0 with hn | hn
          · have := Int.mul_neg_of_neg_of_pos hn hk; omega
          · exact hn
        omega
      · simp only [if_true] at h3 ⊢
        have : n ≤ 0 := by
          rcases Int.lt_or_le 0 n with hn | hn
          · have := Int.mul_pos hn hk; omega
          · exact hn
        omega
  have hi : (FloatKind.f64.decode (fB n)).toInt .zero = some n := by
    rw [hd]
    show some (Ieee.signed s ((Ieee.Toward.zero).cut s (m <<< p.toNat) (-p).toNat) 0) = _
    rw [hcut]
  rw [hi]
  have e1 : IntKind.min .i64 = -9223372036854775808 := by decide
  have e2 : IntKind.max .i64 = 9223372036854775807 := by decide
  simp only [e1, e2]
  rw [if_pos (by omega)]
end Go.Proofs.Ytlbeelgfpbkdbaa.E
