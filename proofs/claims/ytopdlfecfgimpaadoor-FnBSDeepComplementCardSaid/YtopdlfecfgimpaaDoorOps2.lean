/-
  SymmetricDifference, Difference, SetRange, FlipRange. Printed by this session's own program ops2.py.
-/
import Derived.Test.YtopdlfecfgimpaaDoorFnsF
import Derived.Test.YtopdlfecfgimpaaDoorBV
namespace Go.Proofs.YtopdlfecfgimpaaDoor.E
open Go
set_option linter.unusedSimpArgs false
set_option linter.unusedVariables false
set_option maxRecDepth 100000

/-! ## Ranges -/
/-- Is j from a on, below b? -/
def rg (a b j : Nat) : Bool := decide (a ≤ j) && decide (j < b)
theorem rg_iff {a b j : Nat} : rg a b j = true ↔ a ≤ j ∧ j < b := by simp [rg]
/-- The word's bits from r on. -/
def hiM (r : Nat) : Nat := 18446744073709551615 * 2 ^ r % 18446744073709551616
theorem hiM_lt (r : Nat) : hiM r < 18446744073709551616 := Nat.mod_lt _ (by decide)
theorem hiM_bit {r i : Nat} (hi : i < 64) : (hiM r).testBit i = decide (r ≤ i) := by
  unfold hiM
  rw [show (18446744073709551616 : Nat) = 2 ^ 64 from rfl, Nat.testBit_mod_two_pow, Nat.mul_comm, Nat.testBit_two_pow_mul, show (18446744073709551615 : Nat) = 2 ^ 64 - 1 from rfl, Nat.testBit_two_pow_sub_one, decide_eq_true hi, Bool.true_and]
  by_cases h : r ≤ i
  · rw [decide_eq_true h, decide_eq_true (by omega)]; rfl
  · rw [decide_eq_false h]; rfl
theorem shl_ones {r : Nat} (hr : r < 64) : shlI .u64 18446744073709551615 r = ((hiM r : Nat) : Int) := by
  rw [shlI_def]; unfold hiM
  rw [Nat.min_eq_left (by show _ ≤ 64; omega), show ((2 : Int) ^ r) = ((2 ^ r : Nat) : Int) by simp, show (18446744073709551615 : Int) = ((18446744073709551615 : Nat) : Int) from rfl, ← Int.natCast_mul]
  simp only [IntKind.wrap, IntKind.bits, IntKind.signed]
  simp
theorem loM_bit {c i : Nat} : (18446744073709551615 / 2 ^ c).testBit i = decide (i + c < 64) := by
  rw [Nat.testBit_div_two_pow, show (18446744073709551615 : Nat) = 2 ^ 64 - 1 from rfl, Nat.testBit_two_pow_sub_one]
theorem shr_ones {c : Nat} (hc : c ≤ 64) : shrI .u64 18446744073709551615 c = ((18446744073709551615 / 2 ^ c : Nat) : Int) := shr_nat .u64 (x := 18446744073709551615) hc
theorem loM_lt (c : Nat) : 18446744073709551615 / 2 ^ c < 18446744073709551616 := Nat.lt_of_le_of_lt (Nat.div_le_self _ _) (by decide)
theorem neg_end {e : Nat} (h0 : 0 < e) (he : e < 1048577) : subI .u64 0 (e : Int) = ((18446744073709551616 - e : Nat) : Int) := by
  have h : IntKind.wrap .u64 (0 - (e : Int)) = ((18446744073709551616 - e : Nat) : Int) := by
    simp only [IntKind.wrap, IntKind.bits, IntKind.signed]; simp; omega
  exact h
theorem neg_mod {e : Nat} (he : e < 1048577) : (18446744073709551616 - e) % 64 = (64 - e % 64) % 64 := by omega
theorem last_mask {e i : Nat} (h0 : 0 < e) (hi : i < 64) : (18446744073709551615 / 2 ^ ((64 - e % 64) % 64)).testBit i = decide (i ≤ (e - 1) % 64) := by
  rw [loM_bit]; apply decide_eq_decide.2; omega
theorem BW.frz {w : World} {b q n : Nat} {ws rest : List Nat} (h : BW w b q n ws rest) (i : Nat) : w.frozen? ⟨q, i, none⟩ = false := h.row.frozen i
/-- A word is turned. -/
theorem BW.put {w : World} {b q n i x : Nat} {ws rest : List Nat} {k : W} (h : BW w b q n ws rest) (hi : i < ws.length) (hx : x < 18446744073709551616)
    (hk : ∀ w', BW w' b q n (ws.set i x) rest → Fr (fun x => x = b ∨ x = q) w w' → k w') : Store1 ⟨q, i, none⟩ (.int .u64 (x : Nat)) k w :=
  Store1_iff.2 ⟨rfl, ⟨_, h.word hi⟩, h.frz i, hk _ (h.store hi hx) (Fr.setCell _ _ _ (.inr rfl))⟩
theorem BW.ldw {w : World} {b q n i : Nat} {ws rest : List Nat} {f : Int → W} (h : BW w b q n ws rest) (hi : i < ws.length) (hk : f (ws.getD i 0 : Nat) w) : LoadT (.int .u64) ⟨q, i, none⟩ f w :=
  LoadT_int.2 ⟨_, h.word hi, hk⟩
theorem BW.lds {w : World} {b q n : Nat} {ws rest : List Nat} {f : Option Addr → Nat → Nat → W} (h : BW w b q n ws rest) (hk : f (some ⟨q, 0, none⟩) ws.length (ws.length + rest.length) w) : LoadT .slice ⟨b, 1, none⟩ f w :=
  LoadT_slice.2 ⟨_, _, _, h.c1, hk⟩
end Go.Proofs.YtopdlfecfgimpaaDoor.E
