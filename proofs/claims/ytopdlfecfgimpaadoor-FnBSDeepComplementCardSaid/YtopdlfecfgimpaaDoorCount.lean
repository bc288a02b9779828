/-
  Counting the bits of a row of words: popcntSlice, Count.
-/
import Derived.Test.YtopdlfecfgimpaaDoorUnion
namespace Go.Proofs.YtopdlfecfgimpaaDoor.E
open Go
set_option linter.unusedSimpArgs false
set_option linter.unusedVariables false
set_option maxRecDepth 100000

theorem wrapcnt {n : Nat} (h : n ≤ 64) : IntKind.wrap .u64 ((n : Nat) : Int) = ((n : Nat) : Int) := wrap_u64 (by omega) (by omega)
/-- popcntSlice. -/
theorem F54_spec {p : Option Addr} {c : Nat} {ws : List Nat} {k : Value → W} {w : World} (hs : Sees w p ws) (hb : ∀ j, ws.getD j 0 < 18446744073709551616) (hl : ws.length ≤ 16777216)
    (hk : k (.int .u64 (cnt (64 * ws.length) (wbit ws))) w) : F54 k p ws.length c w := by
  unfold F54
  refine F54_L1_rule (fun p' l' c' c0 c1 c2 c3 n' i' w' => p' = p ∧ l' = ws.length ∧ n' = ((ws.length : Nat) : Int) ∧ w' = w ∧ ∃ i d0 d1 d2 d3 : Nat, i' = i ∧ c0 = d0 ∧ c1 = d1 ∧ c2 = d2 ∧ c3 = d3 ∧ i ≤ ws.length ∧ d0 + d1 + d2 + d3 = cnt (64 * i) (wbit ws))
    (fun _ _ _ _ _ _ _ _ i' _ => ws.length - i'.toNat) ?_ ⟨rfl, rfl, rfl, rfl, 0, 0, 0, 0, 0, rfl, rfl, rfl, rfl, rfl, Nat.zero_le _, rfl⟩
  rintro p' l' c' c0 c1 c2 c3 n' i' w' ⟨rfl, rfl, rfl, rfl, i, d0, d1, d2, d3, rfl, rfl, rfl, rfl, rfl, hi, hd⟩
  unfold F54_L1
  have hc0 := cnt_le (64 * i) (wbit ws)
  have e4 : subI .i64 ((ws.length : Nat) : Int) 4 = (ws.length : Int) - 4 := subI_i64 (by omega) (by omega)
  rw [e4]
  refine BIf_intro (fun hc => ?_) (fun hc => ?_)
  · have hc := of_decide_eq_true hc
    have hi4 : i + 4 ≤ ws.length := by omega
    have hs' := hs
    rcases hs' with e | ⟨a, rfl, ha, hca⟩
    · subst e; simp at hi4
    have ei : ∀ t : Nat, t < 5 → addI .i64 (i : Int) (t : Int) = ((i + t : Nat) : Int) := fun t ht => by rw [addI_i64 (by omega) (by omega)]; omega
    have e1 : addI .i64 (i : Int) 1 = ((i + 1 : Nat) : Int) := ei 1 (by decide)
    have e2 : addI .i64 (i : Int) 2 = ((i + 2 : Nat) : Int) := ei 2 (by decide)
    have e3 : addI .i64 (i : Int) 3 = ((i + 3 : Nat) : Int) := ei 3 (by decide)
    have e5 : addI .i64 (i : Int) 4 = ((i + 4 : Nat) : Int) := ei 4 (by decide)
    have h0 := cnt_le 64 (ws.getD i 0).testBit
    have h1 := cnt_le 64 (ws.getD (i + 1) 0).testBit
    have h2 := cnt_le 64 (ws.getD (i + 2) 0).testBit
    have h3 := cnt_le 64 (ws.getD (i + 3) 0).testBit
    refine ⟨⟨by omega, by omega⟩, ?_⟩
    refine LoadT_int.2 ⟨_, by rw [Int.toNat_natCast]; exact hca i (by omega), ?_⟩
    refine F56_call (F56_spec (hb _) (back_int (bind_intro ?_)))
    rw [wrapcnt h0, addI_nat (by omega), e1]
    refine ⟨⟨by omega, by omega⟩, ?_⟩
    refine LoadT_int.2 ⟨_, by rw [Int.toNat_natCast]; exact hca (i + 1) (by omega), ?_⟩
    refine F56_call (F56_spec (hb _) (back_int (bind_intro ?_)))
    rw [wrapcnt h1, addI_nat (by omega), e2]
    refine ⟨⟨by omega, by omega⟩, ?_⟩
    refine LoadT_int.2 ⟨_, by rw [Int.toNat_natCast]; exact hca (i + 2) (by omega), ?_⟩
    refine F56_call (F56_spec (hb _) (back_int (bind_intro ?_)))
    rw [wrapcnt h2, addI_nat (by omega), e3]
    refine ⟨⟨by omega, by omega⟩, ?_⟩
    refine LoadT_int.2 ⟨_, by rw [Int.toNat_natCast]; exact hca (i + 3) (by omega), ?_⟩
    refine F56_call (F56_spec (hb _) (back_int (bind_intro ?_)))
    rw [wrapcnt h3, addI_nat (by omega), e5]
    refine ⟨⟨rfl, rfl, rfl, rfl, i + 4, _, _, _, _, rfl, rfl, rfl, rfl, rfl, hi4, ?_⟩, by omega⟩
    have q0 := cnt_wbit ws i
    have q1 : cnt (64 * (i + 2)) (wbit ws) = _ := cnt_wbit ws (i + 1)
    have q2 : cnt (64 * (i + 3)) (wbit ws) = _ := cnt_wbit ws (i + 2)
    have q3 : cnt (64 * (i + 4)) (wbit ws) = _ := cnt_wbit ws (i + 3)
    omega
  · refine bind_intro ?_
    rw [addI_nat (by omega), addI_nat (by omega), addI_nat (by omega), hd]
    clear hd
    refine F54_L2_rule (fun p2 l2 c2 t n2 i2 w2 => p2 = p' ∧ l2 = ws.length ∧ n2 = ((ws.length : Nat) : Int) ∧ w2 = w' ∧ ∃ i : Nat, i2 = i ∧ i ≤ ws.length ∧ t = ((cnt (64 * i) (wbit ws) : Nat) : Int))
      (fun _ _ _ _ _ i2 _ => ws.length - i2.toNat) ?_ ⟨rfl, rfl, rfl, rfl, i, rfl, hi, rfl⟩
    clear hc hc0 hi i
    rintro p2 l2 c2 t n2 i2 w2 ⟨rfl, rfl, rfl, rfl, i, rfl, hi, rfl⟩
    unfold F54_L2
    have hc0 := cnt_le (64 * i) (wbit ws)
    refine BIf_intro (fun hc => ?_) (fun hc => ?_)
    · have hc := of_decide_eq_true hc
      have hi' : i < ws.length := by omega
      have hs' := hs
      rcases hs' with e | ⟨a, rfl, ha, hca⟩
      · subst e; simp at hi'
      have ei : addI .i64 (i : Int) 1 = ((i + 1 : Nat) : Int) := by rw [addI_i64 (by omega) (by omega)]; omega
      have h0 := cnt_le 64 (ws.getD i 0).testBit
      refine ⟨⟨by omega, by omega⟩, ?_⟩
      refine LoadT_int.2 ⟨_, by rw [Int.toNat_natCast]; exact hca i hi', ?_⟩
      refine F56_call (F56_spec (hb _) (back_int (bind_intro ?_)))
      rw [wrapcnt h0, addI_nat (by omega), ei]
      exact ⟨⟨rfl, rfl, rfl, rfl, i + 1, rfl, by omega, by rw [cnt_wbit]⟩, by omega⟩
    · have hc := of_decide_eq_false hc
      have : i = ws.length := by omega
      subst this
      exact hk

theorem shr_i64 {x j : Nat} (h : j ≤ 64) : shrI .i64 x j = ((x / 2 ^ j : Nat) : Int) := shr_nat .i64 h
/-- wordCount. -/
theorem F58_spec {b q n : Nat} {ws rest : List Nat} {k : Value → W} {w : World} (h : BW w b q n ws rest) (hn : n < 16777216) (hk : k (.int .i64 ((ws.length : Nat) : Int)) w) : F58 k (some ⟨b, 0, none⟩) w := by
  unfold F58
  have hl := h.len
  simp only [NN_mk, LoadT_int, h.c0, Option.some.injEq, Value.int.injEq, true_and, exists_eq_left']
  refine F65_call ?_
  unfold F65
  have e1 : IntKind.wrap .i64 (n : Int) = (n : Int) := wrap_i64 (by omega) (by omega)
  have e2 : addI .i64 (n : Int) 63 = ((n + 63 : Nat) : Int) := by rw [addI_i64 (by omega) (by omega)]; omega
  have e3 : shrI .i64 ((n + 63 : Nat) : Int) 6 = (((n + 63) / 64 : Nat) : Int) := shr_nat .i64 (by decide)
  rw [e1, e2, e3, ← hl]
  exact back_int hk
/-- The words of a bitset, as they are read. -/
theorem BW.sees {w : World} {b q n : Nat} {ws rest : List Nat} (h : BW w b q n ws rest) : Sees w (some ⟨q, 0, none⟩) ws :=
  .inr ⟨_, rfl, h.row.lt, fun i hi => by rw [add_mk, Nat.zero_add]; exact h.word hi⟩
theorem cnt_words {n : Nat} {f : Nat → Bool} {ws : List Nat} (hl : ws.length = (n + 63) / 64) (hf : ∀ i, wbit ws i = f i) (h : ∀ i, f i = true → i < n) : cnt (64 * ws.length) (wbit ws) = cnt n f := by
  have e : 64 * ws.length = n + (64 * ws.length - n) := by omega
  rw [e, cnt_add, cnt_congr (fun i _ => hf i), cnt_zero (f := fun i => wbit ws (n + i)) (fun i _ => ?_), Nat.add_zero]
  show wbit ws (n + i) = false
  rw [hf]
  cases hb : f (n + i) with
  | false => rfl
  | true => have := h _ hb; omega
/-- Count. -/
theorem F35_spec {b q n : Nat} {f : Nat → Bool} {k : Value → W} {w : World} (h : BSet w b q n f) (hk : k (.int .u64 ((cnt n f : Nat) : Int)) w) : F35 k (some ⟨b, 0, none⟩) w := by
  obtain ⟨⟨ws, rest, hm, hf⟩, hl⟩ := h
  have hcap := hm.cap
  unfold F35 F35_J1
  simp only [Option.isNone_some, Bool.not_false, BIf_true, NN_mk, LoadT_slice, add_mk, Nat.zero_add, hm.c1, Option.some.injEq, Value.slice.injEq]
  refine ⟨_, _, _, ⟨rfl, rfl, rfl⟩, ?_⟩
  simp only [Option.isNone_some, Bool.not_false, BIf_true, NN_mk, LoadT_slice, add_mk, Nat.zero_add, hm.c1, Option.some.injEq, Value.slice.injEq]
  refine ⟨_, _, _, ⟨rfl, rfl, rfl⟩, ?_⟩
  refine F54_call (F54_spec hm.sees hm.word_lt (by omega) (back_int ?_))
  rw [cnt_words hm.len hf hl]; exact hk
end Go.Proofs.YtopdlfecfgimpaaDoor.E
