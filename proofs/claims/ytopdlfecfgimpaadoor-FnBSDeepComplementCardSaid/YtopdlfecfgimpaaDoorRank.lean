/-
  OnesCount64, Rank, Complement.
-/
import Derived.Test.YtopdlfecfgimpaaDoorFnsC
import Derived.Test.YtopdlfecfgimpaaDoorImpl2
import Derived.Test.YtopdlfecfgimpaaDoorPop
namespace Go.Proofs.YtopdlfecfgimpaaDoor.E
open Go
set_option linter.unusedSimpArgs false
set_option linter.unusedVariables false
set_option maxRecDepth 100000

theorem msk_lit : msk 85 8 = 6148914691236517205 ∧ msk 51 8 = 3689348814741910323 ∧ msk 15 8 = 1085102592571150095 := by decide
theorem addI_nat {x y : Nat} (h : x + y < 18446744073709551616) : addI .u64 (x : Int) y = ((x + y : Nat) : Int) := by rw [addI_u64 (by omega) (by omega)]; omega
/-- OnesCount64. -/
theorem F56_spec {x : Nat} {k : Value → W} {w : World} (hx : x < 18446744073709551616) (hk : k (.int .i64 (cnt 64 x.testBit)) w) : F56 k x w := by
  unfold F56
  obtain ⟨l1, l2, l3⟩ := msk_lit
  have s1 : shrI .u64 (x : Int) 1 = ((x / 2 : Nat) : Int) := shr_nat .u64 (by decide)
  have a1 : andI .u64 ((x / 2 : Nat) : Int) 6148914691236517205 = ((x / 2 &&& msk 85 8 : Nat) : Int) := by rw [l1]; exact andI_nat (by omega) (by decide)
  have a2 : andI .u64 (x : Int) 6148914691236517205 = ((x &&& msk 85 8 : Nat) : Int) := by rw [l1]; exact andI_nat (by omega) (by decide)
  have b1 : x / 2 &&& msk 85 8 ≤ 6148914691236517205 := by rw [l1]; exact Nat.and_le_right
  have b2 : x &&& msk 85 8 ≤ 6148914691236517205 := by rw [l1]; exact Nat.and_le_right
  have c1 : addI .u64 ((x / 2 &&& msk 85 8 : Nat) : Int) ((x &&& msk 85 8 : Nat) : Int) = ((stA 8 x : Nat) : Int) := addI_nat (by omega)
  have d1 : stA 8 x < 18446744073709551616 := by unfold stA; omega
  simp only [Bind_iff, s1, a1, a2, c1]
  generalize hA : stA 8 x = A at *
  have s2 : shrI .u64 (A : Int) 2 = ((A / 4 : Nat) : Int) := shr_nat .u64 (by decide)
  have a3 : andI .u64 ((A / 4 : Nat) : Int) 3689348814741910323 = ((A / 4 &&& msk 51 8 : Nat) : Int) := by rw [l2]; exact andI_nat (by omega) (by decide)
  have a4 : andI .u64 (A : Int) 3689348814741910323 = ((A &&& msk 51 8 : Nat) : Int) := by rw [l2]; exact andI_nat (by omega) (by decide)
  have b3 : A / 4 &&& msk 51 8 ≤ 3689348814741910323 := by rw [l2]; exact Nat.and_le_right
  have b4 : A &&& msk 51 8 ≤ 3689348814741910323 := by rw [l2]; exact Nat.and_le_right
  have c2 : addI .u64 ((A / 4 &&& msk 51 8 : Nat) : Int) ((A &&& msk 51 8 : Nat) : Int) = ((stB 8 A : Nat) : Int) := addI_nat (by omega)
  have d2 : stB 8 A ≤ 7378697629483820646 := by unfold stB; omega
  simp only [s2, a3, a4, c2]
  generalize hB : stB 8 A = B at *
  have s3 : shrI .u64 (B : Int) 4 = ((B / 16 : Nat) : Int) := shr_nat .u64 (by decide)
  have c3 : addI .u64 ((B / 16 : Nat) : Int) (B : Int) = ((B / 16 + B : Nat) : Int) := addI_nat (by omega)
  have a5 : andI .u64 ((B / 16 + B : Nat) : Int) 1085102592571150095 = ((stC 8 B : Nat) : Int) := by unfold stC; rw [l3]; exact andI_nat (by omega) (by decide)
  have b5 : stC 8 B ≤ 1085102592571150095 := by unfold stC; rw [l3]; exact Nat.and_le_right
  simp only [s3, c3, a5]
  obtain ⟨q1, q2, q3, q4⟩ := swar (x := x) rfl rfl rfl
  rw [hA, hB] at q1 q2 q3 q4
  generalize stC 8 B = C at *
  have s4 : shrI .u64 (C : Int) 8 = ((C / 256 : Nat) : Int) := shr_nat .u64 (by decide)
  have c4 : addI .u64 (C : Int) ((C / 256 : Nat) : Int) = ((C + C / 256 : Nat) : Int) := addI_nat q2
  simp only [s4, c4]
  generalize C + C / 256 = y at *
  have s5 : shrI .u64 (y : Int) 16 = ((y / 65536 : Nat) : Int) := shr_nat .u64 (by decide)
  have c5 : addI .u64 (y : Int) ((y / 65536 : Nat) : Int) = ((y + y / 65536 : Nat) : Int) := addI_nat q3
  simp only [s5, c5]
  generalize y + y / 65536 = z at *
  have s6 : shrI .u64 (z : Int) 32 = ((z / 4294967296 : Nat) : Int) := shr_nat .u64 (by decide)
  have c6 : addI .u64 (z : Int) ((z / 4294967296 : Nat) : Int) = ((z + z / 4294967296 : Nat) : Int) := addI_nat (by omega)
  simp only [s6, c6]
  generalize z + z / 4294967296 = u at *
  have w1 : IntKind.wrap .i64 (u : Int) = (u : Int) := wrap_i64 (by omega) (by omega)
  have a6 : andI .i64 (u : Int) 127 = ((u % 128 : Nat) : Int) := by
    have := andI_i64_nat q4 (show 127 < 9223372036854775808 by decide)
    rw [show ((127 : Nat) : Int) = 127 from rfl] at this
    rw [this, show (127 : Nat) = 2 ^ 7 - 1 from rfl, Nat.and_two_pow_sub_one_eq_mod]
  rw [w1, a6, q1]
  exact hk

theorem cnt_zero {n : Nat} {f : Nat → Bool} (h : ∀ i, i < n → f i = false) : cnt n f = 0 := by
  induction n with
  | zero => rfl
  | succ n ih => simp only [cnt]; rw [ih (fun i hi => h i (by omega)), h n (by omega)]; rfl
theorem cnt_wbit (ws : List Nat) (j : Nat) : cnt (64 * (j + 1)) (wbit ws) = cnt (64 * j) (wbit ws) + cnt 64 (ws.getD j 0).testBit := by
  rw [Nat.mul_succ, cnt_add]
  congr 1
  apply cnt_congr
  intro i hi
  unfold wbit
  rw [show (64 * j + i) / 64 = j by omega, show (64 * j + i) % 64 = i by omega]
theorem cnt_part (ws : List Nat) (i : Nat) : cnt (i + 1) (wbit ws) = cnt (64 * (i / 64)) (wbit ws) + cnt (i % 64 + 1) (ws.getD (i / 64) 0).testBit := by
  have e : i + 1 = 64 * (i / 64) + (i % 64 + 1) := by omega
  conv => lhs; rw [e, cnt_add]
  congr 1
  apply cnt_congr
  intro t ht
  unfold wbit
  rw [show (64 * (i / 64) + t) / 64 = i / 64 by omega, show (64 * (i / 64) + t) % 64 = t by omega]
theorem cnt_shift (x r : Nat) (hr : r < 64) : cnt 64 (x * 2 ^ (63 - r) % 18446744073709551616).testBit = cnt (r + 1) x.testBit := by
  have e : (64 : Nat) = (63 - r) + (r + 1) := by omega
  have h : ∀ j, (x * 2 ^ (63 - r) % 18446744073709551616).testBit j = (decide (j < 64) && (decide (63 - r ≤ j) && x.testBit (j - (63 - r)))) := by
    intro j
    rw [show (18446744073709551616 : Nat) = 2 ^ 64 from rfl, Nat.testBit_mod_two_pow, Nat.mul_comm, Nat.testBit_two_pow_mul]
  conv => lhs; rw [e, cnt_add]
  rw [cnt_zero (fun i hi => by rw [h i]; simp; omega), Nat.zero_add]
  apply cnt_congr
  intro t ht
  rw [h]
  have h1 : 63 - r + t < 64 := by omega
  have h2 : 63 - r ≤ 63 - r + t := Nat.le_add_right _ _
  rw [decide_eq_true h1, decide_eq_true h2, Nat.add_sub_cancel_left]; rfl

/-- Rank, on the words. -/
theorem F41_main {b q n i m : Nat} {ws rest : List Nat} {k : Value → W} {w : World} (h : BW w b q n ws rest) (hi : i < 16777216) (hm : m ≤ ws.length) (hm2 : m = i / 64 ∨ (m = ws.length ∧ ws.length ≤ i / 64))
    (hk : k (.int .u64 (cnt (i + 1) (wbit ws))) w) : F41_J1 k (some ⟨b, 0, none⟩) i 0 ((ws.length : Nat) : Int) m w := by
  unfold F41_J1
  have hcap := h.cap
  refine F41_L1_rule (fun b' i' r' l' m' j' w' => b' = some ⟨b, 0, none⟩ ∧ i' = i ∧ l' = ((ws.length : Nat) : Int) ∧ m' = m ∧ w' = w ∧ ∃ j : Nat, j' = j ∧ j ≤ m ∧ r' = ((cnt (64 * j) (wbit ws) : Nat) : Int))
    (fun _ _ _ _ _ j' _ => m - j'.toNat) ?_ ⟨rfl, rfl, rfl, rfl, rfl, 0, rfl, Nat.zero_le _, rfl⟩
  rintro b' i' r' l' m' j' w' ⟨rfl, rfl, rfl, rfl, rfl, j, rfl, hj, rfl⟩
  unfold F41_L1
  have hc0 := cnt_le (64 * j) (wbit ws)
  refine BIf_intro (fun hc => ?_) (fun hc => ?_)
  · have hc := of_decide_eq_true hc
    have hj' : j < m := by omega
    have hjw : j < ws.length := by omega
    simp only [NN_mk, LoadT_slice, add_mk, Nat.zero_add, h.c1, Option.some.injEq, Value.slice.injEq]
    refine ⟨_, _, _, ⟨rfl, rfl, rfl⟩, ?_⟩
    simp only [NN_mk, Req_iff, Int.toNat_natCast, LoadT_int, add_mk, Nat.zero_add, h.word hjw, Option.some.injEq, Value.int.injEq, true_and, exists_eq_left']
    refine ⟨⟨by omega, by omega⟩, ?_⟩
    have ej : addI .i64 (j : Int) 1 = ((j + 1 : Nat) : Int) := by rw [addI_i64 (by omega) (by omega)]; omega
    have hs := cnt_wbit ws j
    have hc1 := cnt_le 64 (ws.getD j 0).testBit
    refine BIf_intro (fun hz => ?_) (fun hz => ?_)
    · refine F56_call (F56_spec (h.word_lt j) (back_int ?_))
      have ew : IntKind.wrap .u64 ((cnt 64 (ws.getD j 0).testBit : Nat) : Int) = ((cnt 64 (ws.getD j 0).testBit : Nat) : Int) := wrap_u64 (by omega) (by omega)
      rw [ew, addI_nat (by omega), ← hs]
      refine ⟨⟨rfl, j + 1, ej, by omega, rfl⟩, by rw [ej]; omega⟩
    · have hz0 : ws.getD j 0 = 0 := by
        have : ((ws.getD j 0 : Nat) : Int) = 0 := by simpa using hz
        omega
      have hc2 : cnt 64 (ws.getD j 0).testBit = 0 := by rw [hz0]; exact cnt_zero fun i _ => Nat.zero_testBit i
      refine ⟨⟨rfl, j + 1, ej, by omega, by rw [hs, hc2, Nat.add_zero]⟩, by rw [ej]; omega⟩
  · have hc := of_decide_eq_false hc
    have : j = m := by omega
    subst this
    refine BIf_intro (fun hl => ?_) (fun hl => ?_)
    · have hl := of_decide_eq_true hl
      have hjw : j < ws.length := by omega
      have hji : j = i / 64 := by omega
      simp only [NN_mk, LoadT_slice, add_mk, Nat.zero_add, h.c1, Option.some.injEq, Value.slice.injEq]
      refine ⟨_, _, _, ⟨rfl, rfl, rfl⟩, ?_⟩
      simp only [NN_mk, Req_iff, Int.toNat_natCast, LoadT_int, add_mk, Nat.zero_add, h.word hjw, Option.some.injEq, Value.int.injEq, true_and, exists_eq_left']
      refine ⟨⟨by omega, by omega⟩, ?_⟩
      have e1 : subI .u64 63 (andI .u64 (i : Int) 63) = ((63 - i % 64 : Nat) : Int) := by
        rw [and63 (by omega), subI_u64 (by omega) (by omega)]; omega
      have e2 : shlI .u64 ((ws.getD j 0 : Nat) : Int) (63 - i % 64) = ((ws.getD j 0 * 2 ^ (63 - i % 64) % 18446744073709551616 : Nat) : Int) := by
        rw [shlI_def]
        rw [Nat.min_eq_left (by show _ ≤ 64; omega), show ((2 : Int) ^ (63 - i % 64)) = ((2 ^ (63 - i % 64) : Nat) : Int) by simp, ← Int.natCast_mul]
        simp only [IntKind.wrap, IntKind.bits, IntKind.signed]
        simp
      rw [e1]
      simp only [Int.toNat_natCast, e2]
      refine ⟨Int.natCast_nonneg _, ?_⟩
      refine F56_call (F56_spec (Nat.mod_lt _ (by decide)) (back_int ?_))
      rw [cnt_shift _ _ (Nat.mod_lt _ (by decide))]
      have hc1 := cnt_le (i % 64 + 1) (ws.getD j 0).testBit
      have ew : IntKind.wrap .u64 ((cnt (i % 64 + 1) (ws.getD j 0).testBit : Nat) : Int) = ((cnt (i % 64 + 1) (ws.getD j 0).testBit : Nat) : Int) := wrap_u64 (by omega) (by omega)
      rw [ew, addI_nat (by omega)]
      have hp := cnt_part ws i
      rw [← hji] at hp
      rw [hp] at hk
      exact hk
    · have hl := of_decide_eq_false hl
      have e : cnt (i + 1) (wbit ws) = cnt (64 * j) (wbit ws) := by
        have e1 : i + 1 = 64 * j + (i + 1 - 64 * j) := by omega
        rw [e1, cnt_add, cnt_zero (f := fun t => wbit ws (64 * j + t)) (fun t _ => wbit_ge (by omega))]; rfl
      rw [e] at hk
      exact hk
/-- Rank. -/
theorem F41_spec {b q n i : Nat} {f : Nat → Bool} {k : Value → W} {w : World} (h : BSet w b q n f) (hi : i < 16777216) (hk : k (.int .u64 (cnt (i + 1) f)) w) : F41 k (some ⟨b, 0, none⟩) i w := by
  obtain ⟨⟨ws, rest, hm, hf⟩, hl⟩ := h
  have hcap := hm.cap
  rw [cnt_congr (fun j _ => (hf j).symm)] at hk
  unfold F41
  simp only [NN_mk, LoadT_slice, add_mk, Nat.zero_add, hm.c1, Option.some.injEq, Value.slice.injEq, Bind_iff]
  refine ⟨_, _, _, ⟨rfl, rfl, rfl⟩, ?_⟩
  have e : IntKind.wrap .i64 (shrI .u64 (i : Int) 6) = ((i / 64 : Nat) : Int) := by rw [shr6, wrap_i64 (by omega) (by omega)]
  rw [e]
  refine BIf_intro (fun hc => ?_) (fun hc => ?_)
  · have hc := of_decide_eq_true hc
    exact F41_main hm hi (Nat.le_refl _) (.inr ⟨rfl, by omega⟩) hk
  · have hc := of_decide_eq_false hc
    exact F41_main hm hi (by omega) (.inl rfl) hk

/-- Complement. -/
theorem F43_spec {b q n : Nat} {f : Nat → Bool} {k : Value → W} {w : World} (hb : BSet w b q n f) (hn : n < 1048576)
    (hk : ∀ r qr w', BSet w' r qr n (fun j => decide (j < n) && !f j) → Fr (fun _ => False) w w' → w.heap.size ≤ r → w.heap.size ≤ qr → k (.pointer (some ⟨r, 0, none⟩)) w') : F43 k (some ⟨b, 0, none⟩) w := by
  obtain ⟨⟨ws, rest, hm, hf⟩, hl⟩ := hb
  have hlen := hm.len
  unfold F43
  refine F55_call (F55_spec (back0 ?_))
  simp only [NN_mk, LoadT_int, hm.c0, Option.some.injEq, Value.int.injEq, true_and, exists_eq_left']
  refine F50_call (F50_spec hn fun r qr w1 hr f1 zr zq => back_ptr ?_)
  have hm1 := hm.fr f1 id id
  simp only [NN_mk, LoadT_slice, add_mk, Nat.zero_add, hm1.c1, Option.some.injEq, Value.slice.injEq]
  refine ⟨_, _, _, ⟨rfl, rfl, rfl⟩, ?_⟩
  obtain ⟨⟨us0, rest0, hr0, hr0f⟩, _⟩ := hr
  refine F43_L1_rule (fun r' sp sl sc x9 x10 w2 => r' = some ⟨r, 0, none⟩ ∧ sp = some ⟨q, 0, none⟩ ∧ sl = ws.length ∧ x9 = ((ws.length : Nat) : Int) ∧
      ∃ (i : Nat) (rs : List Nat), x10 = i ∧ i ≤ ws.length ∧ BW w2 r qr n rs rest0 ∧ (∀ j, j < i → rs.getD j 0 = 18446744073709551615 ^^^ ws.getD j 0) ∧ Fr (fun _ => False) w w2)
    (fun _ _ _ _ _ x10 _ => ws.length - x10.toNat) ?_ ⟨rfl, rfl, rfl, rfl, 0, us0, rfl, Nat.zero_le _, hr0, fun j hj => by omega, f1⟩
  rintro r' sp sl sc x9 x10 w2 ⟨rfl, rfl, rfl, rfl, i, rs, rfl, hi, h2, hrs, f2⟩
  have hrl : rs.length = ws.length := by rw [h2.len, hlen]
  unfold F43_L1
  refine BIf_intro (fun h => ?_) (fun h => ?_)
  · have h := of_decide_eq_true h
    have hi' : i < ws.length := by omega
    have hm2 := hm.fr f2 id id
    simp only [NN_mk, Req_iff, Int.toNat_natCast, add_mk, Nat.zero_add, LoadT_int, hm2.word hi', Option.some.injEq, Value.int.injEq, true_and, exists_eq_left']
    refine ⟨⟨by omega, by omega⟩, ?_⟩
    simp only [NN_mk, LoadT_slice, add_mk, Nat.zero_add, h2.c1, Option.some.injEq, Value.slice.injEq]
    refine ⟨_, _, _, ⟨rfl, rfl, rfl⟩, ?_⟩
    have ex : xorI .u64 (IntKind.max .u64) ((ws.getD i 0 : Nat) : Int) = ((18446744073709551615 ^^^ ws.getD i 0 : Nat) : Int) := xorI_nat (x := 18446744073709551615) (by decide) (hm2.word_lt _)
    rw [ex]
    simp only [NN_mk, Req_iff, Int.toNat_natCast, add_mk, Nat.zero_add, Store1_iff, oneC_int, true_and]
    refine ⟨⟨by omega, by omega⟩, ⟨_, h2.word (by omega)⟩, h2.row.frozen _, ?_⟩
    have ei : addI .i64 (i : Int) 1 = ((i + 1 : Nat) : Int) := by rw [addI_i64 (by omega) (by omega)]; omega
    rw [ei]
    refine ⟨⟨i + 1, rs.set i (18446744073709551615 ^^^ ws.getD i 0), rfl, by omega, h2.store (by omega) (Nat.xor_lt_two_pow (n := 64) (by decide) (hm2.word_lt _)), fun j hj => ?_, f2.trans (Fr.setCell (S := fun x => x = qr) _ _ _ rfl) fun x e => .inr (by have : x = qr := e; have := f1.size; omega)⟩, by omega⟩
    rw [getD_set (by omega)]
    by_cases e : j = i
    · rw [if_pos e, e]
    · rw [if_neg e]; exact hrs j (by omega)
  · have h := of_decide_eq_false h
    have : i = ws.length := by omega
    subst this
    refine F59_call (F59_spec h2 (by omega) fun vs' w3 h3 hb3 f3 => back0 (hk r qr w3 ⟨⟨vs', rest0, h3, fun j => ?_⟩, fun j hj => ?_⟩ (f2.trans f3 fun x e => .inr (by rcases e with rfl | rfl <;> omega)) zr zq))
    · rw [hb3 j, Bool.and_comm]
      by_cases e : j < n
      · have hj : j / 64 < ws.length := by omega
        rw [decide_eq_true e, Bool.true_and, Bool.true_and, ← hf j]
        unfold wbit
        rw [hrs _ hj, Nat.testBit_xor, show (18446744073709551615 : Nat) = 2 ^ 64 - 1 from rfl, Nat.testBit_two_pow_sub_one, decide_eq_true (by omega)]
        simp
      · simp [e]
    · simp only [Bool.and_eq_true, decide_eq_true_eq] at hj; exact hj.1
end Go.Proofs.YtopdlfecfgimpaaDoor.E
