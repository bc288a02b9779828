/-
  OnesBetween, All, None, Shrink, Compact.
-/
import Derived.Test.YtopdlfecfgimpaaDoorTz
namespace Go.Proofs.YtopdlfecfgimpaaDoor.E
open Go
set_option linter.unusedSimpArgs false
set_option linter.unusedVariables false
set_option maxRecDepth 100000
set_option maxHeartbeats 2000000

theorem cnt_split {a b : Nat} (f : Nat → Bool) (h : a ≤ b) : cnt b f = cnt a f + cnt (b - a) (fun i => f (a + i)) := by
  obtain ⟨d, rfl⟩ := Nat.exists_eq_add_of_le h
  rw [cnt_add, Nat.add_sub_cancel_left]
/-- The bits of a word from r on, below s. -/
theorem cnt_word {x m r s : Nat} (hr : r ≤ s) (hs : s ≤ 64) (h : ∀ i, i < 64 → (x &&& m).testBit i = (x.testBit i && (decide (r ≤ i) && decide (i < s)))) : cnt 64 (x &&& m).testBit = cnt (s - r) (fun i => x.testBit (r + i)) := by
  rw [show (64 : Nat) = r + ((s - r) + (64 - s)) by omega, cnt_add, cnt_add, cnt_zero (n := r) (fun i hi => by rw [h i (by omega), decide_eq_false (by omega)]; simp), Nat.zero_add]
  rw [cnt_zero (n := 64 - s) (fun i hi => by rw [h _ (by omega), decide_eq_false (show ¬ r + (s - r + i) < s by omega)]; simp), Nat.add_zero]
  exact cnt_congr fun i hi => by rw [h _ (by omega), decide_eq_true (by omega), decide_eq_true (by omega)]; simp
theorem lowMask {j : Nat} (h : j < 64) : subI .u64 (shlI .u64 1 j) 1 = ((2 ^ j - 1 : Nat) : Int) := by
  have hp : (2 : Nat) ^ j ≤ 2 ^ 63 := Nat.pow_le_pow_right (by decide) (by omega)
  have h0 : 0 < (2 : Nat) ^ j := Nat.pow_pos (by decide)
  rw [shl1_nat h]
  generalize (2 : Nat) ^ j = m at *
  rw [subI_u64 (by omega) (by omega)]; omega
theorem lowMask_lt {j : Nat} (h : j < 64) : 2 ^ j - 1 < 18446744073709551616 := by
  have hp : (2 : Nat) ^ j ≤ 2 ^ 63 := Nat.pow_le_pow_right (by decide) (by omega)
  generalize (2 : Nat) ^ j = m at *
  omega
/-- The last part of OnesBetween. -/
theorem F38_J2_spec {b q n e c : Nat} {ws rest : List Nat} {k : Value → W} {w : World} (hm : BW w b q n ws rest) (he : e ≤ n) (hn : n < 16777216) (hc : c ≤ 16777216)
    (hk : k (.int .u64 (c + cnt (e % 64) (fun i => wbit ws (64 * (e / 64) + i)) : Nat)) w) : F38_J2 k (some ⟨b, 0, none⟩) ((e / 64 : Nat) : Int) ((e % 64 : Nat) : Int) (c : Int) w := by
  have hlw := hm.len
  unfold F38_J2
  refine BIf_intro (fun h => ?_) (fun h => ?_)
  · have h := of_decide_eq_true h
    have hi : e / 64 < ws.length := by omega
    refine ⟨by omega, bind_intro ?_⟩
    rw [Int.toNat_natCast (e % 64), lowMask (Nat.mod_lt _ (by decide))]
    refine hm.lds ⟨⟨by omega, by omega⟩, hm.ldw2 rfl hi ?_⟩
    have hlt := lowMask_lt (j := e % 64) (Nat.mod_lt _ (by decide))
    rw [andI_nat (hm.word_lt _) hlt]
    refine F56_call (F56_spec (Nat.and_lt_two_pow (n := 64) _ hlt) (back_int (bind_intro ?_)))
    have ec : cnt 64 (ws.getD (e / 64) 0 &&& (2 ^ (e % 64) - 1)).testBit = cnt (e % 64) (fun i => wbit ws (64 * (e / 64) + i)) := by
      rw [cnt_word (r := 0) (s := e % 64) (Nat.zero_le _) (by omega) (fun i hi => by rw [Nat.testBit_and, Nat.testBit_two_pow_sub_one]; simp)]
      refine cnt_congr fun i hi => ?_
      unfold wbit
      rw [show (64 * (e / 64) + i) / 64 = e / 64 by omega, show (64 * (e / 64) + i) % 64 = i by omega, Nat.zero_add]
    have hle := cnt_le (e % 64) (fun i => wbit ws (64 * (e / 64) + i))
    rw [ec, wrap_u64 (by omega) (by omega), addI_nat (by omega)]
    exact hk
  · have h := of_decide_eq_false h
    have h0 : e % 64 = 0 := by omega
    rw [h0] at hk
    exact hk
theorem F38_J1_spec {b q n s e : Nat} {ws rest : List Nat} {k : Value → W} {w : World} (hm : BW w b q n ws rest) (he : e ≤ n) (hn : n < 16777216) (hs : s < 16777216)
    (hk : k (.int .u64 (cnt e (wbit ws) - cnt s (wbit ws) : Nat)) w) : F38_J1 k (some ⟨b, 0, none⟩) s e w := by
  have hlw := hm.len
  have hcap := hm.cap
  unfold F38_J1
  refine BIf_intro (fun h => ?_) (fun h => ?_)
  · have h := of_decide_eq_true h
    have h0 : cnt e (wbit ws) - cnt s (wbit ws) = 0 := by
      have := cnt_split (wbit ws) (show e ≤ s by omega)
      omega
    rw [h0] at hk
    exact hk
  have h := of_decide_eq_false h
  have hse : s < e := by omega
  have hsp := cnt_split (wbit ws) (Nat.le_of_lt hse)
  rw [show cnt e (wbit ws) - cnt s (wbit ws) = cnt (e - s) (fun i => wbit ws (s + i)) by omega] at hk
  have hi : s / 64 < ws.length := by omega
  rw [shr6, shr6, and63 (by omega), and63 (by omega)]
  refine BIf_intro (fun hq => ?_) (fun hq => ?_)
  · have hq : s / 64 = e / 64 := by
      have : ((s / 64 : Nat) : Int) = ((e / 64 : Nat) : Int) := by simpa using hq
      omega
    refine ⟨by omega, by omega, bind_intro ?_⟩
    rw [Int.toNat_natCast (e % 64), Int.toNat_natCast (s % 64), lowMask (Nat.mod_lt _ (by decide)), lowMask (Nat.mod_lt _ (by decide)), andNotI_nat (lowMask_lt (Nat.mod_lt _ (by decide))) (lowMask_lt (Nat.mod_lt _ (by decide)))]
    refine hm.lds ⟨⟨by omega, by omega⟩, hm.ldw2 rfl hi ?_⟩
    have hlt : (2 ^ (e % 64) - 1 &&& (18446744073709551615 ^^^ (2 ^ (s % 64) - 1))) < 18446744073709551616 := Nat.lt_of_le_of_lt Nat.and_le_left (lowMask_lt (Nat.mod_lt _ (by decide)))
    rw [andI_nat (hm.word_lt _) hlt]
    refine F56_call (F56_spec (Nat.and_lt_two_pow (n := 64) _ hlt) (back_int ?_))
    have ec : cnt 64 (ws.getD (s / 64) 0 &&& (2 ^ (e % 64) - 1 &&& (18446744073709551615 ^^^ (2 ^ (s % 64) - 1)))).testBit = cnt (e - s) (fun i => wbit ws (s + i)) := by
      rw [cnt_word (r := s % 64) (s := e % 64) (by omega) (by omega) (fun i hi => by
        rw [Nat.testBit_and, Nat.testBit_and, Nat.testBit_two_pow_sub_one, Nat.testBit_xor, Nat.testBit_two_pow_sub_one, show (18446744073709551615 : Nat) = 2 ^ 64 - 1 from rfl, Nat.testBit_two_pow_sub_one, decide_eq_true hi]
        by_cases h1 : i < e % 64 <;> by_cases h2 : i < s % 64 <;> simp [h1, h2] <;> omega), show e % 64 - s % 64 = e - s by omega]
      refine cnt_congr fun i hi => ?_
      unfold wbit
      rw [show (s + i) / 64 = s / 64 by omega, show (s + i) % 64 = s % 64 + i by omega]
    have hle := cnt_le (e - s) (fun i => wbit ws (s + i))
    rw [ec, wrap_u64 (by omega) (by omega)]
    exact hk
  · have hq : s / 64 < e / 64 := by
      have : ¬ ((s / 64 : Nat) : Int) = ((e / 64 : Nat) : Int) := by simpa using hq
      omega
    refine ⟨by omega, bind_intro ?_⟩
    rw [Int.toNat_natCast (s % 64), lowMask (Nat.mod_lt _ (by decide)), show (IntKind.max .u64 : Int) = ((18446744073709551615 : Nat) : Int) from rfl, xorI_nat (by decide) (lowMask_lt (Nat.mod_lt _ (by decide)))]
    refine hm.lds ⟨⟨by omega, by omega⟩, hm.ldw2 rfl hi ?_⟩
    have hlt : (18446744073709551615 ^^^ (2 ^ (s % 64) - 1)) < 18446744073709551616 := Nat.xor_lt_two_pow (n := 64) (by decide) (lowMask_lt (Nat.mod_lt _ (by decide)))
    rw [andI_nat (hm.word_lt _) hlt]
    refine F56_call (F56_spec (Nat.and_lt_two_pow (n := 64) _ hlt) (back_int ?_))
    have ec : cnt 64 (ws.getD (s / 64) 0 &&& (18446744073709551615 ^^^ (2 ^ (s % 64) - 1))).testBit = cnt (64 * (s / 64 + 1) - s) (fun i => wbit ws (s + i)) := by
      rw [cnt_word (r := s % 64) (s := 64) (by omega) (by omega) (fun i hi => by
        rw [Nat.testBit_and, Nat.testBit_xor, Nat.testBit_two_pow_sub_one, show (18446744073709551615 : Nat) = 2 ^ 64 - 1 from rfl, Nat.testBit_two_pow_sub_one, decide_eq_true hi]
        by_cases h2 : i < s % 64 <;> simp [h2] <;> omega), show 64 - s % 64 = 64 * (s / 64 + 1) - s by omega]
      refine cnt_congr fun i hi => ?_
      unfold wbit
      rw [show (s + i) / 64 = s / 64 by omega, show (s + i) % 64 = s % 64 + i by omega]
    have hle := cnt_le (64 * (s / 64 + 1) - s) (fun i => wbit ws (s + i))
    rw [ec, wrap_u64 (by omega) (by omega)]
    have e1 : addI .u64 ((s / 64 : Nat) : Int) 1 = ((s / 64 + 1 : Nat) : Int) := addI_nat (y := 1) (by omega)
    rw [e1]
    -- the whole in three parts
    have t1 : cnt (e - s) (fun i => wbit ws (s + i)) = cnt (64 * (s / 64 + 1) - s) (fun i => wbit ws (s + i)) + cnt (64 * (e / 64 - (s / 64 + 1))) (fun i => wbit ws (64 * (s / 64 + 1) + i)) + cnt (e % 64) (fun i => wbit ws (64 * (e / 64) + i)) := by
      rw [cnt_split (fun i => wbit ws (s + i)) (show 64 * (e / 64) - s ≤ e - s by omega), cnt_split (fun i => wbit ws (s + i)) (show 64 * (s / 64 + 1) - s ≤ 64 * (e / 64) - s by omega)]
      rw [show e - s - (64 * (e / 64) - s) = e % 64 by omega, show 64 * (e / 64) - s - (64 * (s / 64 + 1) - s) = 64 * (e / 64 - (s / 64 + 1)) by omega]
      congr 1
      · congr 1
        exact cnt_congr fun i _ => by rw [show s + (64 * (s / 64 + 1) - s + i) = 64 * (s / 64 + 1) + i by omega]
      · exact cnt_congr fun i _ => by rw [show s + (64 * (e / 64) - s + i) = 64 * (e / 64) + i by omega]
    have hle2 := cnt_le (64 * (e / 64 - (s / 64 + 1))) (fun i => wbit ws (64 * (s / 64 + 1) + i))
    rw [t1] at hk
    refine BIf_intro (fun hg => ?_) (fun hg => ?_)
    · have hg := of_decide_eq_true hg
      refine hm.lds ⟨⟨by omega, by omega⟩, ⟨by omega, by omega⟩, ?_⟩
      simp only [Int.toNat_natCast]
      have hsee : Sees w (sliceA (some ⟨q, 0, none⟩) (s / 64 + 1) (ws.length + rest.length) 1) ((ws.drop (s / 64 + 1)).take (e / 64 - (s / 64 + 1))) := by
        have e2 : sliceA (some ⟨q, 0, none⟩) (s / 64 + 1) (ws.length + rest.length) 1 = some ⟨q, s / 64 + 1, none⟩ := by
          unfold sliceA; rw [if_neg (by omega)]; simp [add_mk]
        rw [e2]
        refine .inr ⟨_, rfl, hm.row.lt, fun j hj => ?_⟩
        have hj : j < e / 64 - (s / 64 + 1) := by simp at hj; omega
        rw [add_mk, hm.word (by omega)]
        simp only [List.getD_eq_getElem?_getD, List.getElem?_take, hj, if_true, List.getElem?_drop]
      have hlen : ((ws.drop (s / 64 + 1)).take (e / 64 - (s / 64 + 1))).length = e / 64 - (s / 64 + 1) := by simp; omega
      have hsmall : ∀ j, ((ws.drop (s / 64 + 1)).take (e / 64 - (s / 64 + 1))).getD j 0 < 18446744073709551616 := by
        intro j
        by_cases hj : j < e / 64 - (s / 64 + 1)
        · have := hm.word_lt (s / 64 + 1 + j)
          simpa only [List.getD_eq_getElem?_getD, List.getElem?_take, hj, if_true, List.getElem?_drop] using this
        · rw [List.getD_eq_getElem?_getD, List.getElem?_eq_none (by omega)]; decide
      have := F54_spec (c := ws.length + rest.length - (s / 64 + 1)) (k := fun v => Back (.s (.one (.int .u64))) (fun x25 => Bind (addI .u64 ((cnt (64 * (s / 64 + 1) - s) (fun i => wbit ws (s + i)) : Nat) : Int) x25) fun count_26 => F38_J2 k (some ⟨b, 0, none⟩) ((e / 64 : Nat) : Int) ((e % 64 : Nat) : Int) count_26) (.returned v)) hsee hsmall (by omega)
      rw [hlen] at this
      refine F54_call (this (back_int (bind_intro ?_)))
      have ew : cnt (64 * (e / 64 - (s / 64 + 1))) (wbit ((ws.drop (s / 64 + 1)).take (e / 64 - (s / 64 + 1)))) = cnt (64 * (e / 64 - (s / 64 + 1))) (fun i => wbit ws (64 * (s / 64 + 1) + i)) := by
        refine cnt_congr fun i hi => ?_
        have hi : i / 64 < e / 64 - (s / 64 + 1) := by omega
        unfold wbit
        rw [show (64 * (s / 64 + 1) + i) / 64 = s / 64 + 1 + i / 64 by omega, show (64 * (s / 64 + 1) + i) % 64 = i % 64 by omega]
        simp only [List.getD_eq_getElem?_getD, List.getElem?_take, hi, if_true, List.getElem?_drop]
      rw [ew, addI_nat (by omega)]
      exact F38_J2_spec hm he hn (by omega) hk
    · have hg := of_decide_eq_false hg
      have h0 : e / 64 - (s / 64 + 1) = 0 := by omega
      rw [h0] at hk
      exact F38_J2_spec hm he hn (by omega) hk
/-- OnesBetween. -/
theorem F38_spec {b q n s e : Nat} {f : Nat → Bool} {k : Value → W} {w : World} (h : BSet w b q n f) (hn : n < 16777216) (hs : s < 16777216)
    (hk : k (.int .u64 (cnt e f - cnt s f : Nat)) w) : F38 k (some ⟨b, 0, none⟩) s e w := by
  obtain ⟨⟨ws, rest, hm, hf⟩, hl⟩ := h
  have hcnt : ∀ m, cnt m (wbit ws) = cnt m f := fun m => cnt_congr fun i _ => hf i
  unfold F38
  refine F55_call (F55_spec (back0 ?_))
  refine load_int hm.head rfl ?_
  refine BIf_intro (fun hc => ?_) (fun hc => ?_)
  · have hc := of_decide_eq_true hc
    refine load_int hm.head rfl ?_
    refine F38_J1_spec hm (Nat.le_refl _) hn hs ?_
    rw [hcnt, hcnt, ← cnt_more (m := e) (by omega) hl]
    exact hk
  · have hc := of_decide_eq_false hc
    refine F38_J1_spec hm (by omega) hn hs ?_
    rw [hcnt, hcnt]
    exact hk
/-- All. -/
theorem F46_spec {b q n : Nat} {f : Nat → Bool} {k : Value → W} {w : World} (h : BSet w b q n f) (hk : ∀ w', Fr (fun _ => False) w w' → k (.bool (decide (cnt n f = n))) w') : F46 k (some ⟨b, 0, none⟩) w := by
  have hh := h
  obtain ⟨⟨ws, rest, hm, hf⟩, hl⟩ := h
  unfold F46
  refine F55_call (F55_spec (back0 ?_))
  refine drw_intro fun w1 f1 z1 => ?_
  refine load_int (hm.fr f1 id id).head rfl ?_
  refine F35_call (F35_spec (hh.fr f1 id id) (back_int ?_))
  repeat (first | refine Chk1_iff.2 ⟨(hm.fr f1 id id).c0, ?_⟩)
  have e : (((cnt n f : Nat) : Int) == ((n : Nat) : Int)) = decide (cnt n f = n) := by
    rw [Bool.eq_iff_iff, beq_iff_eq, decide_eq_true_iff]; omega
  rw [e]
  exact hk _ f1
/-- None. -/
theorem F48_spec {b q n : Nat} {f : Nat → Bool} {k : Value → W} {w : World} (h : BSet w b q n f) (hn : n < 16777216) (hk : ∀ r : Bool, (r = true ↔ ∀ j, f j = false) → k (.bool r) w) : F48 k (some ⟨b, 0, none⟩) w := by
  obtain ⟨⟨ws, rest, hm, hf⟩, hl⟩ := h
  have hlw := hm.len
  unfold F48
  refine F55_call (F55_spec (back0 ?_))
  simp only [Option.isNone_some, Bool.not_false, BIf_true]
  refine hm.lds ?_
  simp only [Option.isNone_some, Bool.not_false]
  unfold F48_J1
  simp only [BIf_true]
  refine hm.lds ?_
  refine F48_L1_rule (fun p' l' c' n' i' w' => p' = some ⟨q, 0, none⟩ ∧ l' = ws.length ∧ n' = ((ws.length : Nat) : Int) ∧ ∃ i : Nat, i' = i ∧ i ≤ ws.length ∧ (∀ j, j / 64 < i → f j = false) ∧ w' = w) (fun _ _ _ _ i' _ => ws.length - i'.toNat) ?_
    ⟨rfl, rfl, rfl, 0, rfl, Nat.zero_le _, fun j hj => by omega, rfl⟩
  rintro p' l' c' n' i' w' ⟨rfl, rfl, rfl, i, rfl, hi, hall, rfl⟩
  unfold F48_L1
  refine BIf_intro (fun hc => ?_) (fun hc => ?_)
  · have hc := of_decide_eq_true hc
    refine ⟨⟨by omega, by omega⟩, hm.ldw2 rfl (by omega) ?_⟩
    refine BIf_intro (fun hz => ?_) (fun hz => ?_)
    · have hz := of_decide_eq_true hz
      refine hk false ⟨fun h => (by cases h), fun h => ?_⟩
      exfalso
      have : ws.getD i 0 = 0 := by
        apply Nat.eq_of_testBit_eq
        intro t
        rw [Nat.zero_testBit]
        by_cases ht : t < 64
        · have := h (64 * i + t)
          rw [← hf] at this; unfold wbit at this
          rwa [show (64 * i + t) / 64 = i by omega, show (64 * i + t) % 64 = t by omega] at this
        · exact Nat.testBit_lt_two_pow (Nat.lt_of_lt_of_le (hm.word_lt _) (Nat.pow_le_pow_right (n := 2) (by decide) (by omega : 64 ≤ t)))
      omega
    · have hz := of_decide_eq_false hz
      have hz : ws.getD i 0 = 0 := by omega
      have ei : addI .i64 (i : Int) 1 = ((i + 1 : Nat) : Int) := by rw [addI_i64 (by omega) (by omega)]; omega
      rw [ei]
      refine ⟨⟨(by trivial), (by trivial), (by trivial), i + 1, rfl, by omega, fun j hj => ?_, by trivial⟩, by omega⟩
      by_cases e : j / 64 < i
      · exact hall j e
      · rw [← hf]; exact word_zero hz (by omega)
  · have hc := of_decide_eq_false hc
    refine hk true ⟨fun _ j => ?_, fun _ => rfl⟩
    by_cases e : j / 64 < i
    · exact hall j e
    · rw [← hf, wbit_ge (by omega)]
end Go.Proofs.YtopdlfecfgimpaaDoor.E
