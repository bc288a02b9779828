/-
  IsSuperSet, IsStrictSuperSet.
-/
import Derived.Test.YtopdlfecfgimpaaDoorCount
namespace Go.Proofs.YtopdlfecfgimpaaDoor.E
open Go
set_option linter.unusedSimpArgs false
set_option linter.unusedVariables false
set_option maxRecDepth 100000

theorem and_eq_iff {x y : Nat} : x &&& y = y ↔ ∀ i, y.testBit i = true → x.testBit i = true := by
  constructor
  · intro h i hi
    have := congrArg (fun z => Nat.testBit z i) h
    simp only [Nat.testBit_and, hi, Bool.and_true] at this
    exact this
  · intro h
    apply Nat.eq_of_testBit_eq
    intro i
    rw [Nat.testBit_and]
    cases hy : y.testBit i with
    | false => simp
    | true => simp [h i hy]
theorem cnt_eq_zero {n : Nat} {f : Nat → Bool} : cnt n f = 0 ↔ ∀ i, i < n → f i = false := by
  refine ⟨fun h => ?_, cnt_zero⟩
  induction n with
  | zero => intro i hi; omega
  | succ n ih =>
    simp only [cnt] at h
    intro i hi
    by_cases e : i = n
    · subst e
      cases hb : f i with
      | false => rfl
      | true => rw [hb] at h; simp at h
    · exact ih (by omega) i (by omega)
theorem wbit_drop {ws : List Nat} {l i : Nat} : wbit (ws.drop l) i = wbit ws (64 * l + i) := by
  unfold wbit
  rw [show (64 * l + i) / 64 = l + i / 64 by omega, show (64 * l + i) % 64 = i % 64 by omega, List.getD_eq_getElem?_getD, List.getElem?_drop, List.getD_eq_getElem?_getD]
/-- IsSuperSet, the number of words that both have given. -/
theorem F42_main {b qb n c qc m l : Nat} {ws rest vs rest' : List Nat} {k : Value → W} {w : World} (hm : BW w b qb n ws rest) (hv : BW w c qc m vs rest') (hl : l = min ws.length vs.length)
    (hk : ∀ r : Bool, (r = true ↔ ∀ j, wbit vs j = true → wbit ws j = true) → k (.bool r) w) : F42_J1 k (some ⟨b, 0, none⟩) (some ⟨c, 0, none⟩) l w := by
  unfold F42_J1
  have hcap := hv.cap
  simp only [NN_mk, LoadT_slice, add_mk, Nat.zero_add, hv.c1, Option.some.injEq, Value.slice.injEq]
  refine ⟨_, _, _, ⟨rfl, rfl, rfl⟩, ?_⟩
  have es : sliceA (some ⟨qc, 0, none⟩) 0 (vs.length + rest'.length) 1 = some ⟨qc, 0, none⟩ := by unfold sliceA; split <;> simp [add_mk]
  simp only [Req_iff, es, Int.toNat_natCast, Nat.sub_zero]
  refine ⟨⟨by omega, by omega⟩, ?_⟩
  refine F42_L1_rule (fun b' c' l' sp sl sc x15 x16 w' => b' = some ⟨b, 0, none⟩ ∧ c' = some ⟨c, 0, none⟩ ∧ l' = (l : Int) ∧ sp = some ⟨qc, 0, none⟩ ∧ sl = l ∧ x15 = ((l : Nat) : Int) ∧ w' = w ∧
      ∃ i : Nat, x16 = i ∧ i ≤ l ∧ ∀ j, j / 64 < i → wbit vs j = true → wbit ws j = true) (fun _ _ _ _ _ _ _ x16 _ => l - x16.toNat) ?_ ⟨rfl, rfl, rfl, rfl, rfl, rfl, rfl, 0, rfl, Nat.zero_le _, fun j hj => by omega⟩
  rintro b' c' l' sp sl sc x15 x16 w' ⟨rfl, rfl, rfl, rfl, rfl, rfl, rfl, i, rfl, hi, hsub⟩
  unfold F42_L1
  refine BIf_intro (fun h => ?_) (fun h => ?_)
  · have h := of_decide_eq_true h
    have hiv : i < vs.length := by omega
    have hiw : i < ws.length := by omega
    simp only [NN_mk, Req_iff, Int.toNat_natCast, add_mk, Nat.zero_add, LoadT_int, hv.word hiv, Option.some.injEq, Value.int.injEq, true_and, exists_eq_left']
    refine ⟨⟨by omega, by omega⟩, ?_⟩
    simp only [LoadT_slice, hm.c1, Option.some.injEq, Value.slice.injEq]
    refine ⟨_, _, _, ⟨rfl, rfl, rfl⟩, ?_⟩
    simp only [NN_mk, Req_iff, Int.toNat_natCast, add_mk, Nat.zero_add, LoadT_int, hm.word hiw, Option.some.injEq, Value.int.injEq, true_and, exists_eq_left']
    refine ⟨⟨by omega, by omega⟩, ?_⟩
    rw [andI_nat (hm.word_lt _) (hv.word_lt _)]
    have ei : addI .i64 (i : Int) 1 = ((i + 1 : Nat) : Int) := by rw [addI_i64 (by omega) (by omega)]; omega
    refine BIf_intro (fun hne => hk false ?_) (fun heq => ?_)
    · have hne : ¬ (ws.getD i 0 &&& vs.getD i 0 = vs.getD i 0) := fun e => by rw [e] at hne; simp at hne
      refine ⟨fun h => (by cases h), fun hall => absurd (and_eq_iff.2 fun t ht => ?_) hne⟩
      have ht64 : t < 64 := by
        rcases Nat.lt_or_ge t 64 with h | h
        · exact h
        · have : (vs.getD i 0).testBit t = false := Nat.testBit_lt_two_pow (Nat.lt_of_lt_of_le (hv.word_lt i) (Nat.pow_le_pow_right (n := 2) (by decide) h))
          rw [this] at ht; cases ht
      have := hall (64 * i + t) (by unfold wbit; rw [show (64 * i + t) / 64 = i by omega, show (64 * i + t) % 64 = t by omega]; exact ht)
      unfold wbit at this
      rw [show (64 * i + t) / 64 = i by omega, show (64 * i + t) % 64 = t by omega] at this
      exact this
    · have heq : ws.getD i 0 &&& vs.getD i 0 = vs.getD i 0 := by
        have : ((ws.getD i 0 &&& vs.getD i 0 : Nat) : Int) = ((vs.getD i 0 : Nat) : Int) := by simpa using heq
        exact Int.ofNat.inj this
      rw [ei]
      refine ⟨⟨rfl, i + 1, rfl, by omega, fun j hj hb => ?_⟩, by omega⟩
      by_cases e : j / 64 < i
      · exact hsub j e hb
      · have e : j / 64 = i := by omega
        unfold wbit at hb ⊢
        rw [e] at hb ⊢
        exact and_eq_iff.1 heq _ hb
  · have h := of_decide_eq_false h
    have : i = sl := by omega
    subst this
    simp only [NN_mk, LoadT_slice, add_mk, Nat.zero_add, hv.c1, Option.some.injEq, Value.slice.injEq]
    refine ⟨_, _, _, ⟨rfl, rfl, rfl⟩, ?_⟩
    simp only [Req_iff, Int.toNat_natCast]
    refine ⟨⟨by omega, by omega⟩, ?_⟩
    have hil : i ≤ vs.length := by omega
    have hlen : vs.length - i = (vs.drop i).length := by simp
    have hsee : Sees w' (sliceA (some ⟨qc, 0, none⟩) i (vs.length + rest'.length) 1) (vs.drop i) := by
      rcases Nat.eq_zero_or_pos (vs.length - i) with h0 | h0
      · exact .inl (List.drop_eq_nil_of_le (by omega))
      · have e : sliceA (some ⟨qc, 0, none⟩) i (vs.length + rest'.length) 1 = some ⟨qc, i, none⟩ := by
          unfold sliceA; rw [if_neg (by omega)]; simp [add_mk]
        rw [e]
        refine .inr ⟨_, rfl, hv.row.lt, fun j hj => ?_⟩
        rw [add_mk, hv.word (by simp at hj; omega)]
        simp only [List.getD_eq_getElem?_getD, List.getElem?_drop]
    rw [hlen]
    refine F54_call (F54_spec hsee (fun j => ?_) (by simp; omega) (back_int (hk _ ?_)))
    · have := hv.word_lt (i + j)
      simpa only [List.getD_eq_getElem?_getD, List.getElem?_drop] using this
    · have hz : (((cnt (64 * (vs.drop i).length) (wbit (vs.drop i)) : Nat) : Int) == 0) = decide (cnt (64 * (vs.drop i).length) (wbit (vs.drop i)) = 0) := by
        generalize cnt (64 * (vs.drop i).length) (wbit (vs.drop i)) = z
        cases z <;> rfl
      rw [hz, decide_eq_true_iff, cnt_eq_zero]
      constructor
      · intro hall j hj
        by_cases e : j / 64 < i
        · exact hsub j e hj
        · exfalso
          have hjl : j / 64 < vs.length := by
            rcases Nat.lt_or_ge (j / 64) vs.length with h | h
            · exact h
            · rw [wbit_ge h] at hj; cases hj
          have := hall (j - 64 * i) (by simp; omega)
          rw [wbit_drop, show 64 * i + (j - 64 * i) = j by omega, hj] at this
          cases this
      · intro hall t ht
        rw [wbit_drop]
        cases hb : wbit vs (64 * i + t) with
        | false => rfl
        | true =>
          have := hall _ hb
          simp at ht
          rw [wbit_ge (by omega)] at this
          exact this.symm
/-- IsSuperSet. -/
theorem F42_spec {b qb n c qc m : Nat} {f g : Nat → Bool} {k : Value → W} {w : World} (hb : BSet w b qb n f) (hc : BSet w c qc m g) (hn : n < 16777216) (hm : m < 16777216)
    (hk : ∀ r : Bool, (r = true ↔ ∀ j, g j = true → f j = true) → k (.bool r) w) : F42 k (some ⟨b, 0, none⟩) (some ⟨c, 0, none⟩) w := by
  obtain ⟨⟨ws, rest, hw, hf⟩, hl⟩ := hb
  obtain ⟨⟨vs, rest', hv, hg⟩, hl'⟩ := hc
  have hk' : ∀ r : Bool, (r = true ↔ ∀ j, wbit vs j = true → wbit ws j = true) → k (.bool r) w := fun r hr => hk r (by
    rw [hr]
    constructor
    · intro h j; rw [← hf j, ← hg j]; exact h j
    · intro h j; rw [hf j, hg j]; exact h j)
  unfold F42
  refine F58_call (F58_spec hv hm (back_int ?_))
  refine F58_call (F58_spec hw hn (back_int ?_))
  refine BIf_intro (fun h => ?_) (fun h => ?_)
  · have h := of_decide_eq_true h
    refine F58_call (F58_spec hw hn (back_int ?_))
    exact F42_main hw hv (by omega) hk'
  · have h := of_decide_eq_false h
    exact F42_main hw hv (by omega) hk'
end Go.Proofs.YtopdlfecfgimpaaDoor.E
