/-
  TrailingZeros64 with its table, NextSet, NextClear, OnesBetween, All, None.
-/
import Derived.Test.YtopdlfecfgimpaaDoorFnsF
import Derived.Test.YtopdlfecfgimpaaDoorBV2
namespace Go.Proofs.YtopdlfecfgimpaaDoor.E
open Go
set_option linter.unusedSimpArgs false
set_option linter.unusedVariables false
set_option maxRecDepth 100000
set_option maxHeartbeats 2000000

/-- The table of TrailingZeros64. -/
def tab : List Nat := [0, 1, 56, 2, 57, 49, 28, 3, 61, 58, 42, 50, 38, 29, 17, 4, 62, 47, 59, 36, 45, 43, 51, 22, 53, 39, 33, 30, 24, 18, 12, 5, 63, 55, 48, 27, 60, 41, 37, 16, 46, 35, 44, 21, 52, 32, 23, 11, 54, 26, 40, 15, 34, 20, 31, 10, 25, 14, 19, 9, 13, 8, 7, 6]
/-- The table lies in the variable's block. -/
def Tab (w : World) : Prop := 0 < w.heap.size ∧ ∀ i, i < 64 → w.cell? ⟨0, i, none⟩ = some (.int .u8 (tab.getD i 0 : Nat))
theorem Tab.fr {S : Nat → Prop} {w w' : World} (h : Tab w) (f : Fr S w w') (hS : ¬ S 0) : Tab w' :=
  ⟨Nat.lt_of_lt_of_le h.1 f.size, fun i hi => (f.cell (a := ⟨0, i, none⟩) h.1 hS).trans (h.2 i hi)⟩
theorem Tab.fr0 {w w' : World} (h : Tab w) (f : Fr (fun _ => False) w w') : Tab w' := h.fr f id
theorem tab_at : ∀ t, t < 64 → tab.getD (2 ^ t * 285870213051353865 % 18446744073709551616 / 288230376151711744) 0 = t ∧ 2 ^ t * 285870213051353865 % 18446744073709551616 / 288230376151711744 < 64 := by decide +kernel
/-- The lowest bit of a word. -/
def Low (x t : Nat) : Prop := t < 64 ∧ x.testBit t = true ∧ ∀ i, i < t → x.testBit i = false
theorem low_ex {x : Nat} (h0 : x ≠ 0) (hx : x < 18446744073709551616) : ∃ t, Low x t := by
  have h : ∃ t, x.testBit t = true := by
    refine Classical.byContradiction fun h => h0 ?_
    apply Nat.eq_of_testBit_eq
    intro i
    rw [Nat.zero_testBit]
    cases hb : x.testBit i with
    | false => rfl
    | true => exact absurd ⟨i, hb⟩ h
  have wf : ∀ n, x.testBit n = true → ∃ t, x.testBit t = true ∧ ∀ i, i < t → x.testBit i = false := by
    intro n
    induction n using Nat.strongRecOn with
    | _ n ih =>
      intro hn
      by_cases hm : ∃ i, i < n ∧ x.testBit i = true
      · obtain ⟨i, hi, hb⟩ := hm
        exact ih i hi hb
      · refine ⟨n, hn, fun i hi => ?_⟩
        cases hb : x.testBit i with
        | false => rfl
        | true => exact absurd ⟨i, hi, hb⟩ hm
  obtain ⟨n, hn⟩ := h
  obtain ⟨t, ht, hl⟩ := wf n hn
  refine ⟨t, ?_, ht, hl⟩
  rcases Nat.lt_or_ge t 64 with h | h
  · exact h
  · rw [Nat.testBit_lt_two_pow (Nat.lt_of_lt_of_le hx (Nat.pow_le_pow_right (n := 2) (by decide) h))] at ht; cases ht
theorem low_and {x t : Nat} (h : Low x t) (hx : x < 18446744073709551616) : x &&& (18446744073709551616 - x) = 2 ^ t := by
  obtain ⟨ht, hb, hl⟩ := h
  have hmod : x % 2 ^ t = 0 := by
    apply Nat.eq_of_testBit_eq
    intro i
    rw [Nat.testBit_mod_two_pow, Nat.zero_testBit]
    by_cases hi : i < t
    · rw [hl i hi, Bool.and_false]
    · rw [decide_eq_false hi, Bool.false_and]
  have hdiv : 2 ^ t * (x / 2 ^ t) = x := by have := Nat.div_add_mod x (2 ^ t); omega
  have hodd : (x / 2 ^ t) % 2 = 1 := by
    have h1 : (x / 2 ^ t).testBit 0 = true := by rw [Nat.testBit_div_two_pow, Nat.zero_add]; exact hb
    rw [Nat.testBit_zero] at h1
    exact of_decide_eq_true h1
  obtain ⟨y, hy⟩ : ∃ y, x / 2 ^ t = 2 * y + 1 := ⟨x / 2 ^ t / 2, by omega⟩
  have hp : 0 < 2 ^ t := Nat.pow_pos (by decide)
  have hx1 : x = 2 ^ t * (2 * y + 1) + 0 := by rw [← hy, hdiv, Nat.add_zero]
  have hx2 : x - 1 = 2 ^ t * (2 * y) + (2 ^ t - 1) := by
    have e : x = 2 ^ t * (2 * y) + 2 ^ t := by rw [hx1, Nat.add_zero, Nat.mul_add, Nat.mul_one]
    generalize 2 ^ t * (2 * y) = A at *
    omega
  have h0 : 0 < x := by rw [hx1]; have := Nat.mul_pos hp (show 0 < 2 * y + 1 by omega); omega
  apply Nat.eq_of_testBit_eq
  intro i
  rw [Nat.testBit_and, show 18446744073709551616 - x = 2 ^ 64 - ((x - 1) + 1) by omega, Nat.testBit_two_pow_sub_succ (by omega), Nat.testBit_two_pow]
  rw [hx2, Nat.testBit_two_pow_mul_add _ (by omega)]
  by_cases h1 : i < t
  · rw [hl i h1]
    simp; omega
  · rw [if_neg h1]
    by_cases h2 : t = i
    · subst h2
      rw [hb, decide_eq_true ht, Nat.sub_self]
      simp [Nat.testBit_zero]
    · have h3 : x.testBit i = (2 * y + 1).testBit (i - t) := by
        conv => lhs; rw [hx1]
        rw [Nat.testBit_two_pow_mul_add _ hp, if_neg h1]
      obtain ⟨d, hd⟩ : ∃ d, i - t = d + 1 := ⟨i - t - 1, by omega⟩
      rw [h3, hd, Nat.testBit_succ, Nat.testBit_succ, show (2 * y + 1) / 2 = y by omega, show 2 * y / 2 = y by omega, decide_eq_false h2]
      cases y.testBit d <;> simp
theorem wrapN (n : Nat) : IntKind.wrap .u64 (n : Int) = ((n % 18446744073709551616 : Nat) : Int) := by
  simp only [IntKind.wrap, IntKind.bits, IntKind.signed]; simp
/-- TrailingZeros64. -/
theorem F53_spec {x t : Nat} {k : Value → W} {w : World} (hT : Tab w) (h : Low x t) (hx : x < 18446744073709551616) (hk : k (.int .i64 t) w) : F53 k x w := by
  have h0 : x ≠ 0 := fun e => by have := h.2.1; rw [e, Nat.zero_testBit] at this; cases this
  unfold F53
  rw [beq_eq_false_iff_ne.2 (by omega : ((x : Nat) : Int) ≠ 0)]
  simp only [BIf_false]
  have e1 : subI .u64 0 (x : Int) = ((18446744073709551616 - x : Nat) : Int) := by
    have h : IntKind.wrap .u64 (0 - (x : Int)) = ((18446744073709551616 - x : Nat) : Int) := by
      simp only [IntKind.wrap, IntKind.bits, IntKind.signed]; simp; omega
    exact h
  have e2 : mulI .u64 ((2 ^ t : Nat) : Int) 285870213051353865 = ((2 ^ t * 285870213051353865 % 18446744073709551616 : Nat) : Int) := by
    have e3 : ((285870213051353865 : Nat) : Int) = 285870213051353865 := rfl
    rw [mulI_def, ← e3, ← Int.natCast_mul, wrapN]
  obtain ⟨h1, h2⟩ := tab_at t h.1
  rw [e1, andI_nat hx (by omega), low_and h hx, e2]
  clear e2
  generalize 2 ^ t * 285870213051353865 % 18446744073709551616 = m at *
  rw [shr_nat .u64 (by decide), show (2 : Nat) ^ 58 = 288230376151711744 from rfl]
  refine ⟨⟨Int.natCast_nonneg _, Int.ofNat_lt.2 h2⟩, LoadT_int.2 ⟨_, by rw [Int.toNat_natCast, add_mk, Nat.zero_add]; exact hT.2 _ h2, ?_⟩⟩
  rw [h1, wrap_i64 (by have := h.1; omega) (by have := h.1; omega)]
  exact hk
theorem F53_zero {k : Value → W} {w : World} (hk : k (.int .i64 64) w) : F53 k 0 w := hk
theorem BW.ldw2 {w : World} {b q n i : Nat} {x : Int} {ws rest : List Nat} {f : Int → W} (h : BW w b q n ws rest) (hx : x = (i : Int)) (hi : i < ws.length) (hk : f (ws.getD i 0 : Nat) w) : LoadT (.int .u64) ((⟨q, 0, none⟩ : Addr).add x.toNat) f w := by
  subst hx
  rw [Int.toNat_natCast, add_mk, Nat.zero_add]
  exact h.ldw hi hk
theorem back_two {f : Int → Bool → W} {n : Int} {b : Bool} {w : World} (h : f n b w) : Back (.tup [(.one (.int .u64)), (.one .bool)]) f (.returned (.tuple #[.int .u64 n, .bool b])) w := ⟨(n, b, ()), rfl, h⟩
/-- A word of a bitset from a place on. -/
theorem shr_low {x r t : Nat} : Low (x / 2 ^ r) t → x.testBit (r + t) = true ∧ ∀ i, r ≤ i → i < r + t → x.testBit i = false := by
  rintro ⟨_, hb, hl⟩
  refine ⟨by rw [Nat.testBit_div_two_pow] at hb; rwa [Nat.add_comm], fun i h1 h2 => ?_⟩
  have := hl (i - r) (by omega)
  rwa [Nat.testBit_div_two_pow, show i - r + r = i by omega] at this
theorem word_zero {ws : List Nat} {j i : Nat} (h : ws.getD j 0 = 0) (hi : i / 64 = j) : wbit ws i = false := by unfold wbit; rw [hi, h, Nat.zero_testBit]
/-- NextSet. -/
theorem F33_spec {b q n i : Nat} {f : Nat → Bool} {k : Value → W} {w : World} (h : BSet w b q n f) (hT : Tab w) (hi : i < 16777216) (hn : n < 16777216)
    (hk1 : ∀ m w', i ≤ m → f m = true → (∀ j, i ≤ j → j < m → f j = false) → Fr (fun _ => False) w w' → k (.tuple #[.int .u64 (m : Nat), .bool true]) w')
    (hk2 : ∀ w', (∀ j, i ≤ j → f j = false) → Fr (fun _ => False) w w' → k (.tuple #[.int .u64 0, .bool false]) w') : F33 k (some ⟨b, 0, none⟩) i w := by
  obtain ⟨⟨ws, rest, hm, hf⟩, hl⟩ := h
  have hlw := hm.len
  have hcap := hm.cap
  unfold F33
  rw [shr6, wrap_i64 (by omega) (by omega)]
  refine bind_intro ?_
  simp only [NN_mk, add_mk, Nat.zero_add]
  refine hm.lds ?_
  refine BIf_intro (fun hc => ?_) (fun hc => ?_)
  · have hc := of_decide_eq_true hc
    exact hk2 w (fun j hj => by rw [← hf j, wbit_ge (by omega)]) (Fr.refl _ _)
  have hc := of_decide_eq_false hc
  have hi' : i / 64 < ws.length := by omega
  refine drw_intro fun w1 f1 z1 => ?_
  replace hm := hm.fr f1 id id
  replace hT := hT.fr0 f1
  refine hm.lds ?_
  refine ⟨⟨by omega, by omega⟩, hm.ldw2 rfl hi' ?_⟩
  refine F52_call (F52_spec (by omega) (back_int ?_))
  repeat (first | refine Chk1_iff.2 ⟨hm.word hi', ?_⟩ | refine Chk1_iff.2 ⟨hm.c1, ?_⟩ | refine Chk1_iff.2 ⟨by rw [Int.toNat_natCast, add_mk, Nat.zero_add]; exact hm.word hi', ?_⟩)
  refine ⟨by omega, ?_⟩
  rw [Int.toNat_natCast, shr_nat .u64 (by show _ ≤ 64; omega)]
  have hsm : ws.getD (i / 64) 0 / 2 ^ (i % 64) < 18446744073709551616 := Nat.lt_of_le_of_lt (Nat.div_le_self _ _) (hm.word_lt _)
  refine BIf_intro (fun hz => ?_) (fun hz => ?_)
  · have hz : ws.getD (i / 64) 0 / 2 ^ (i % 64) ≠ 0 := fun e => by rw [e] at hz; simp at hz
    obtain ⟨t, ht⟩ := low_ex hz hsm
    obtain ⟨hb, hbl⟩ := shr_low ht
    have ht64 : i % 64 + t < 64 := by
      rcases Nat.lt_or_ge (i % 64 + t) 64 with h | h
      · exact h
      · rw [Nat.testBit_lt_two_pow (Nat.lt_of_lt_of_le (hm.word_lt _) (Nat.pow_le_pow_right (n := 2) (by decide) h))] at hb; cases hb
    refine F53_call (F53_spec hT ht hsm (back_int ?_))
    repeat (first | refine Chk1_iff.2 ⟨hm.word hi', ?_⟩ | refine Chk1_iff.2 ⟨hm.c1, ?_⟩ | refine Chk1_iff.2 ⟨by rw [Int.toNat_natCast, add_mk, Nat.zero_add]; exact hm.word hi', ?_⟩)
    refine bind_intro ?_
    rw [wrap_u64 (by omega) (by omega), addI_nat (by omega)]
    refine hk1 (i + t) w1 (by omega) ?_ (fun j h1 h2 => ?_) f1
    · rw [← hf]; unfold wbit; rw [show (i + t) / 64 = i / 64 by omega, show (i + t) % 64 = i % 64 + t by omega]; exact hb
    · rw [← hf]; unfold wbit; rw [show j / 64 = i / 64 by omega]; exact hbl _ (by omega) (by omega)
  have hz : ws.getD (i / 64) 0 / 2 ^ (i % 64) = 0 := by
    have : ((ws.getD (i / 64) 0 / 2 ^ (i % 64) : Nat) : Int) = 0 := by simpa using hz
    omega
  have hfirst : ∀ j, i ≤ j → j / 64 = i / 64 → f j = false := by
    intro j h1 h2
    rw [← hf]; unfold wbit
    rw [h2]
    have := congrArg (fun z => Nat.testBit z (j - i)) hz
    simp only [Nat.testBit_div_two_pow, Nat.zero_testBit] at this
    rwa [show j - i + i % 64 = j % 64 by omega] at this
  have e1 : addI .i64 ((i / 64 : Nat) : Int) 1 = ((i / 64 + 1 : Nat) : Int) := by rw [addI_i64 (by omega) (by omega)]; omega
  rw [e1]
  refine hm.lds ⟨⟨by omega, by omega⟩, ?_⟩
  simp only [Int.toNat_natCast]
  have hsl : ∀ d, d < ws.length - (i / 64 + 1) → sliceA (some ⟨q, 0, none⟩) (i / 64 + 1) (ws.length + rest.length) 1 = some ⟨q, i / 64 + 1, none⟩ := by
    intro d hd
    unfold sliceA; rw [if_neg (by omega)]; simp [add_mk]
  generalize hsp : sliceA (some ⟨q, 0, none⟩) (i / 64 + 1) (ws.length + rest.length) 1 = sp at hsl ⊢
  refine F33_L1_rule (fun x' s' l' c' n' d' w' => x' = ((i / 64 + 1 : Nat) : Int) ∧ s' = sp ∧ l' = ws.length - (i / 64 + 1) ∧ n' = ((ws.length - (i / 64 + 1) : Nat) : Int) ∧ ∃ d : Nat, d' = d ∧ d ≤ ws.length - (i / 64 + 1) ∧ (∀ j, i ≤ j → j / 64 < i / 64 + 1 + d → f j = false) ∧ w' = w1)
    (fun _ _ _ _ _ d' _ => ws.length - (i / 64 + 1) - d'.toNat) ?_ ⟨rfl, rfl, rfl, rfl, 0, rfl, Nat.zero_le _, fun j h1 h2 => hfirst j h1 (by omega), rfl⟩
  rintro x' s' l' c' n' d' w' ⟨rfl, rfl, rfl, rfl, d, rfl, hd, hall, rfl⟩
  unfold F33_L1
  refine BIf_intro (fun hc => ?_) (fun hc => ?_)
  · have hc := of_decide_eq_true hc
    have hd' : d < ws.length - (i / 64 + 1) := by omega
    rw [hsl d hd']
    simp only [NN_mk, add_mk, Nat.zero_add, Int.toNat_natCast]
    refine ⟨⟨by omega, by omega⟩, hm.ldw (by omega) ?_⟩
    refine BIf_intro (fun hz => ?_) (fun hz => ?_)
    · have hz : ws.getD (i / 64 + 1 + d) 0 ≠ 0 := fun e => by rw [e] at hz; simp at hz
      obtain ⟨t, ht⟩ := low_ex hz (hm.word_lt _)
      refine F53_call (F53_spec hT ht (hm.word_lt _) (back_int ?_))
      have ht64 := ht.1
      refine bind_intro ?_
      have e2 : addI .i64 ((i / 64 + 1 : Nat) : Int) (d : Int) = ((i / 64 + 1 + d : Nat) : Int) := by rw [addI_i64 (by omega) (by omega)]; omega
      have e3 : shlI .i64 ((i / 64 + 1 + d : Nat) : Int) 6 = ((64 * (i / 64 + 1 + d) : Nat) : Int) := by
        rw [shlI_def, show (2 : Int) ^ (min 6 IntKind.i64.bits) = 64 from rfl, wrap_i64 (by omega) (by omega)]; omega
      have e4 : addI .i64 ((64 * (i / 64 + 1 + d) : Nat) : Int) (t : Int) = ((64 * (i / 64 + 1 + d) + t : Nat) : Int) := by rw [addI_i64 (by omega) (by omega)]; omega
      rw [e2, e3, e4, wrap_u64 (by omega) (by omega)]
      refine hk1 _ w' (by omega) ?_ (fun j h1 h2 => ?_) f1
      · rw [← hf]; unfold wbit; rw [show (64 * (i / 64 + 1 + d) + t) / 64 = i / 64 + 1 + d by omega, show (64 * (i / 64 + 1 + d) + t) % 64 = t by omega]; exact ht.2.1
      · by_cases e : j / 64 < i / 64 + 1 + d
        · exact hall j h1 e
        · rw [← hf]; unfold wbit; rw [show j / 64 = i / 64 + 1 + d by omega]; exact ht.2.2 _ (by omega)
    · have hz : ws.getD (i / 64 + 1 + d) 0 = 0 := by
        have : ((ws.getD (i / 64 + 1 + d) 0 : Nat) : Int) = 0 := by simpa using hz
        omega
      have ei : addI .i64 (d : Int) 1 = ((d + 1 : Nat) : Int) := by rw [addI_i64 (by omega) (by omega)]; omega
      rw [ei]
      refine ⟨⟨(by trivial), (by trivial), (by trivial), (by trivial), d + 1, rfl, by omega, fun j h1 h2 => ?_, by trivial⟩, by omega⟩
      by_cases e : j / 64 < i / 64 + 1 + d
      · exact hall j h1 e
      · rw [← hf]; exact word_zero hz (by omega)
  · have hc := of_decide_eq_false hc
    exact hk2 w' (fun j hj => by
      by_cases e : j / 64 < i / 64 + 1 + d
      · exact hall j hj e
      · rw [← hf, wbit_ge (by omega)]) f1
/-- NextClear. -/
theorem F37_spec {b q n i : Nat} {f : Nat → Bool} {k : Value → W} {w : World} (h : BSet w b q n f) (hT : Tab w) (hi : i < 16777216) (hn : n < 16777216)
    (hk1 : ∀ m w', i ≤ m → m < n → f m = false → (∀ j, i ≤ j → j < m → f j = true) → Fr (fun _ => False) w w' → k (.tuple #[.int .u64 (m : Nat), .bool true]) w')
    (hk2 : ∀ w', (∀ j, i ≤ j → j < n → f j = true) → Fr (fun _ => False) w w' → k (.tuple #[.int .u64 0, .bool false]) w') : F37 k (some ⟨b, 0, none⟩) i w := by
  obtain ⟨⟨ws, rest, hm, hf⟩, hl⟩ := h
  have hlw := hm.len
  have hcap := hm.cap
  unfold F37
  refine load_int hm.head rfl ?_
  refine BIf_intro (fun hc => ?_) (fun hc => ?_)
  · have hc := of_decide_eq_true hc
    exact hk2 w (fun j h1 h2 => by omega) (Fr.refl _ _)
  have hc := of_decide_eq_false hc
  have hi' : i / 64 < ws.length := by omega
  rw [shr6, wrap_i64 (by omega) (by omega)]
  refine bind_intro ?_
  simp only [NN_mk, add_mk, Nat.zero_add]
  refine hm.lds ?_
  rw [decide_eq_false (by omega)]
  simp only [BIf_false]
  refine hm.lds ?_
  simp only [NN_mk, add_mk, Nat.zero_add, Int.toNat_natCast]
  refine ⟨⟨by omega, by omega⟩, hm.ldw hi' ?_⟩
  refine F52_call (F52_spec (by omega) (back_int ?_))
  refine ⟨by omega, ?_⟩
  refine F52_call (F52_spec (by omega) (back_int ?_))
  refine ⟨by omega, bind_intro ?_⟩
  simp only [Int.toNat_natCast]
  have hone : 18446744073709551615 / 2 ^ (i % 64) < 18446744073709551616 := loM_lt _
  have hsm : ws.getD (i / 64) 0 / 2 ^ (i % 64) < 18446744073709551616 := Nat.lt_of_le_of_lt (Nat.div_le_self _ _) (hm.word_lt _)
  rw [shr_nat .u64 (by show _ ≤ 64; omega), shr_ones (by omega), show (IntKind.max .u64 : Int) = ((18446744073709551615 : Nat) : Int) from rfl, xorI_nat (by decide) hsm]
  have hxs : 18446744073709551615 ^^^ ws.getD (i / 64) 0 / 2 ^ (i % 64) < 18446744073709551616 := Nat.xor_lt_two_pow (n := 64) (by decide) hsm
  have hxb : ∀ t, t < 64 → (18446744073709551615 ^^^ ws.getD (i / 64) 0 / 2 ^ (i % 64)).testBit t = !(ws.getD (i / 64) 0).testBit (i % 64 + t) := by
    intro t ht
    rw [Nat.testBit_xor, show (18446744073709551615 : Nat) = 2 ^ 64 - 1 from rfl, Nat.testBit_two_pow_sub_one, decide_eq_true ht, Nat.testBit_div_two_pow, Nat.add_comm]
    simp
  have rest' : (∀ j, i ≤ j → j / 64 = i / 64 → j < n → f j = true) → ∀ idx : Int, F37_J1 k (some ⟨b, 0, none⟩) ((i / 64 : Nat) : Int) idx false w := by
    intro hfirst idx
    unfold F37_J1
    simp only [BIf_false, NN_mk, add_mk, Nat.zero_add]
    have e1 : addI .i64 ((i / 64 : Nat) : Int) 1 = ((i / 64 + 1 : Nat) : Int) := by rw [addI_i64 (by omega) (by omega)]; omega
    rw [e1]
    refine hm.lds ⟨⟨by omega, by omega⟩, ?_⟩
    simp only [Int.toNat_natCast]
    have hsl : ∀ d, d < ws.length - (i / 64 + 1) → sliceA (some ⟨q, 0, none⟩) (i / 64 + 1) (ws.length + rest.length) 1 = some ⟨q, i / 64 + 1, none⟩ := by
      intro d hd
      unfold sliceA; rw [if_neg (by omega)]; simp [add_mk]
    generalize hsp : sliceA (some ⟨q, 0, none⟩) (i / 64 + 1) (ws.length + rest.length) 1 = sp at hsl ⊢
    refine F37_L1_rule (fun b' x' s' l' c' n' d' w' => b' = some ⟨b, 0, none⟩ ∧ x' = ((i / 64 + 1 : Nat) : Int) ∧ s' = sp ∧ l' = ws.length - (i / 64 + 1) ∧ n' = ((ws.length - (i / 64 + 1) : Nat) : Int) ∧ ∃ d : Nat, d' = d ∧ d ≤ ws.length - (i / 64 + 1) ∧ (∀ j, i ≤ j → j / 64 < i / 64 + 1 + d → j < n → f j = true) ∧ w' = w)
      (fun _ _ _ _ _ _ d' _ => ws.length - (i / 64 + 1) - d'.toNat) ?_ ⟨rfl, rfl, rfl, rfl, rfl, 0, rfl, Nat.zero_le _, fun j h1 h2 h3 => hfirst j h1 (by omega) h3, rfl⟩
    rintro b' x' s' l' c' n' d' w' ⟨rfl, rfl, rfl, rfl, rfl, d, rfl, hd, hall, rfl⟩
    unfold F37_L1
    refine BIf_intro (fun hc => ?_) (fun hc => ?_)
    · have hc := of_decide_eq_true hc
      have hd' : d < ws.length - (i / 64 + 1) := by omega
      have ei : addI .i64 (d : Int) 1 = ((d + 1 : Nat) : Int) := by rw [addI_i64 (by omega) (by omega)]; omega
      rw [hsl d hd']
      simp only [NN_mk, add_mk, Nat.zero_add, Int.toNat_natCast]
      refine ⟨⟨by omega, by omega⟩, hm.ldw (by omega) ?_⟩
      refine BIf_intro (fun hz => ?_) (fun hz => ?_)
      · have hz : ws.getD (i / 64 + 1 + d) 0 ≠ 18446744073709551615 := fun e => by rw [e] at hz; simp at hz
        rw [show (IntKind.max .u64 : Int) = ((18446744073709551615 : Nat) : Int) from rfl, xorI_nat (by decide) (hm.word_lt _)]
        have hxs : 18446744073709551615 ^^^ ws.getD (i / 64 + 1 + d) 0 < 18446744073709551616 := Nat.xor_lt_two_pow (n := 64) (by decide) (hm.word_lt _)
        have hxb : ∀ t, t < 64 → (18446744073709551615 ^^^ ws.getD (i / 64 + 1 + d) 0).testBit t = !(ws.getD (i / 64 + 1 + d) 0).testBit t := by
          intro t ht
          rw [Nat.testBit_xor, show (18446744073709551615 : Nat) = 2 ^ 64 - 1 from rfl, Nat.testBit_two_pow_sub_one, decide_eq_true ht]
          simp
        have hne : 18446744073709551615 ^^^ ws.getD (i / 64 + 1 + d) 0 ≠ 0 := by
          intro e
          apply hz
          apply Nat.eq_of_testBit_eq
          intro t
          rw [show (18446744073709551615 : Nat) = 2 ^ 64 - 1 from rfl, Nat.testBit_two_pow_sub_one]
          by_cases ht : t < 64
          · have := hxb t ht
            rw [e, Nat.zero_testBit] at this
            rw [decide_eq_true ht]
            simpa using this.symm
          · rw [decide_eq_false ht, Nat.testBit_lt_two_pow (Nat.lt_of_lt_of_le (hm.word_lt _) (Nat.pow_le_pow_right (n := 2) (by decide) (by omega : 64 ≤ t)))]
        obtain ⟨t, ht⟩ := low_ex hne hxs
        have ht64 := ht.1
        refine F53_call (F53_spec hT ht hxs (back_int ?_))
        refine bind_intro ?_
        have e2 : addI .i64 ((i / 64 + 1 : Nat) : Int) (d : Int) = ((i / 64 + 1 + d : Nat) : Int) := by rw [addI_i64 (by omega) (by omega)]; omega
        have e3 : shlI .i64 ((i / 64 + 1 + d : Nat) : Int) 6 = ((64 * (i / 64 + 1 + d) : Nat) : Int) := by
          rw [shlI_def, show (2 : Int) ^ (min 6 IntKind.i64.bits) = 64 from rfl, wrap_i64 (by omega) (by omega)]; omega
        have e4 : addI .i64 ((64 * (i / 64 + 1 + d) : Nat) : Int) (t : Int) = ((64 * (i / 64 + 1 + d) + t : Nat) : Int) := by rw [addI_i64 (by omega) (by omega)]; omega
        rw [e2, e3, e4, wrap_u64 (by omega) (by omega)]
        have hat : wbit ws (64 * (i / 64 + 1 + d) + t) = false := by
          unfold wbit; rw [show (64 * (i / 64 + 1 + d) + t) / 64 = i / 64 + 1 + d by omega, show (64 * (i / 64 + 1 + d) + t) % 64 = t by omega]
          have := ht.2.1
          rw [hxb t ht64] at this
          simpa using this
        have hbef : ∀ j, i ≤ j → j < 64 * (i / 64 + 1 + d) + t → j < n → f j = true := by
          intro j h1 h2 h3
          by_cases e : j / 64 < i / 64 + 1 + d
          · exact hall j h1 e h3
          · rw [← hf]; unfold wbit; rw [show j / 64 = i / 64 + 1 + d by omega]
            have := ht.2.2 (j % 64) (by omega)
            rw [hxb _ (by omega)] at this
            simpa using this
        refine load_int hm.head rfl ?_
        refine BIf_intro (fun hlt => ?_) (fun hlt => ?_)
        · have hlt := of_decide_eq_true hlt
          exact hk1 _ w' (by omega) (by omega) (by rw [← hf]; exact hat) (fun j h1 h2 => hbef j h1 h2 (by omega)) (Fr.refl _ _)
        · have hlt := of_decide_eq_false hlt
          rw [ei]
          exact ⟨⟨(by trivial), (by trivial), (by trivial), (by trivial), (by trivial), d + 1, rfl, by omega, fun j h1 h2 h3 => hbef j h1 (by omega) h3, rfl⟩, by omega⟩
      · have hz : ws.getD (i / 64 + 1 + d) 0 = 18446744073709551615 := by
          have : ((ws.getD (i / 64 + 1 + d) 0 : Nat) : Int) = 18446744073709551615 := by simpa using hz
          omega
        rw [ei]
        refine ⟨⟨(by trivial), (by trivial), (by trivial), (by trivial), (by trivial), d + 1, rfl, by omega, fun j h1 h2 h3 => ?_, rfl⟩, by omega⟩
        by_cases e : j / 64 < i / 64 + 1 + d
        · exact hall j h1 e h3
        · rw [← hf]; unfold wbit
          rw [show j / 64 = i / 64 + 1 + d by omega, hz, show (18446744073709551615 : Nat) = 2 ^ 64 - 1 from rfl, Nat.testBit_two_pow_sub_one]
          exact decide_eq_true (by omega)
    · have hc := of_decide_eq_false hc
      exact hk2 w' (fun j h1 h2 => hall j h1 (by omega) h2) (Fr.refl _ _)
  have tz : ∀ (g : Int → W), (18446744073709551615 ^^^ ws.getD (i / 64) 0 / 2 ^ (i % 64) = 0 → g 64 w) → (∀ t : Nat, Low (18446744073709551615 ^^^ ws.getD (i / 64) 0 / 2 ^ (i % 64)) t → g t w) →
      CallT Go.Proofs.Tryd.prog 53 [.int .u64 ((18446744073709551615 ^^^ ws.getD (i / 64) 0 / 2 ^ (i % 64) : Nat) : Int)] (.s (.one (.int .i64))) g w := by
    intro g h0 h1
    by_cases hz : 18446744073709551615 ^^^ ws.getD (i / 64) 0 / 2 ^ (i % 64) = 0
    · rw [hz]; exact F53_call (F53_zero (back_int (h0 hz)))
    · obtain ⟨t, ht⟩ := low_ex hz hxs
      exact F53_call (F53_spec hT ht hxs (back_int (h1 t ht)))
  have main : ∀ t : Nat, t ≤ 64 → (∀ d, d < t → i % 64 + d < 64 → (ws.getD (i / 64) 0).testBit (i % 64 + d) = true) → (t < 64 → (ws.getD (i / 64) 0).testBit (i % 64 + t) = false) →
      (BIf ((((ws.getD (i / 64) 0 / 2 ^ (i % 64) : Nat) : Int)) != ((18446744073709551615 / 2 ^ (i % 64) : Nat) : Int)) (
        NN (some ⟨b, 0, none⟩) fun a17 => LoadT (.int .u64) a17 fun x18 => F37_J1 k (some ⟨b, 0, none⟩) ((i / 64 : Nat) : Int) ((i + t : Nat) : Int) (decide (((i + t : Nat) : Int) < x18)))
        (F37_J1 k (some ⟨b, 0, none⟩) ((i / 64 : Nat) : Int) ((i + t : Nat) : Int) false)) w := by
    intro t ht64 hbefore hat
    have hfj : ∀ j, i ≤ j → j / 64 = i / 64 → j < i + t → f j = true := by
      intro j h1 h2 h3
      rw [← hf]; unfold wbit; rw [h2]
      have := hbefore (j - i) (by omega) (by omega)
      rwa [show i % 64 + (j - i) = j % 64 by omega] at this
    refine BIf_intro (fun hne => ?_) (fun heq => ?_)
    · have hne : ws.getD (i / 64) 0 / 2 ^ (i % 64) ≠ 18446744073709551615 / 2 ^ (i % 64) := fun e => by rw [e] at hne; simp at hne
      -- the first place that is not there is within the word
      have hin : i % 64 + t < 64 := by
        refine Classical.byContradiction fun h => hne ?_
        apply Nat.eq_of_testBit_eq
        intro d
        rw [loM_bit, Nat.testBit_div_two_pow]
        by_cases hd : d + i % 64 < 64
        · rw [decide_eq_true hd, Nat.add_comm]; exact hbefore d (by omega) (by omega)
        · rw [decide_eq_false hd, Nat.testBit_lt_two_pow (Nat.lt_of_lt_of_le (hm.word_lt _) (Nat.pow_le_pow_right (n := 2) (by decide) (by omega : 64 ≤ d + i % 64)))]
      refine load_int hm.head rfl ?_
      cases hlt : decide (((i + t : Nat) : Int) < ((n : Nat) : Int)) with
      | true =>
        have hlt := of_decide_eq_true hlt
        unfold F37_J1
        simp only [BIf_true]
        refine hk1 (i + t) w (by omega) (by omega) ?_ (fun j h1 h2 => hfj j h1 (by omega) h2) (Fr.refl _ _)
        rw [← hf]; unfold wbit; rw [show (i + t) / 64 = i / 64 by omega, show (i + t) % 64 = i % 64 + t by omega]
        exact hat (by omega)
      | false =>
        have hlt := of_decide_eq_false hlt
        exact rest' (fun j h1 h2 h3 => hfj j h1 h2 (by omega)) _
    · have heq : ws.getD (i / 64) 0 / 2 ^ (i % 64) = 18446744073709551615 / 2 ^ (i % 64) := by
        have : ((ws.getD (i / 64) 0 / 2 ^ (i % 64) : Nat) : Int) = ((18446744073709551615 / 2 ^ (i % 64) : Nat) : Int) := by simpa using heq
        exact Int.ofNat.inj this
      refine rest' (fun j h1 h2 h3 => ?_) _
      rw [← hf]; unfold wbit; rw [h2]
      have := congrArg (fun z => Nat.testBit z (j - i)) heq
      simp only [Nat.testBit_div_two_pow] at this
      rw [show (18446744073709551615 : Nat) = 2 ^ 64 - 1 from rfl, Nat.testBit_two_pow_sub_one, decide_eq_true (by omega), show j - i + i % 64 = j % 64 by omega] at this
      exact this
  refine tz _ (fun hz => ?_) (fun t ht => ?_)
  · refine bind_intro ?_
    have e1 : addI .u64 (i : Int) (IntKind.wrap .u64 64) = ((i + 64 : Nat) : Int) := by rw [wrap_u64 (by decide) (by decide)]; exact addI_nat (y := 64) (by omega)
    rw [e1]
    refine main 64 (Nat.le_refl _) (fun d h1 h2 => ?_) (fun h => by omega)
    have := hxb d h1
    rw [hz, Nat.zero_testBit] at this
    simpa using this.symm
  · have ht64 := ht.1
    refine bind_intro ?_
    rw [wrap_u64 (by omega) (by omega), addI_nat (by omega)]
    refine main t (by omega) (fun d h1 h2 => ?_) (fun h => ?_)
    · have := ht.2.2 d h1
      rw [hxb d (by omega)] at this
      simpa using this
    · have := ht.2.1
      rw [hxb t (by omega)] at this
      simpa using this
end Go.Proofs.YtopdlfecfgimpaaDoor.E
