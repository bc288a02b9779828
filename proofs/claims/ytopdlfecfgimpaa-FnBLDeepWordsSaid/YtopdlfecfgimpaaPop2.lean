/-
  Counting the bits of two rows of words put together: popcntMaskSlice, popcntOrSlice, popcntAndSlice, popcntXorSlice. Printed by this session's own program pop2.py.
-/
import Derived.Test.YtopdlfecfgimpaaFnsE
import Derived.Test.YtopdlfecfgimpaaSuper0
namespace Go.Proofs.Ytopdlfecfgimpaa.E
open Go
set_option linter.unusedSimpArgs false
set_option linter.unusedVariables false
set_option maxRecDepth 100000

theorem andNotI_nat {x y : Nat} (hx : x < 18446744073709551616) (hy : y < 18446744073709551616) : andNotI .u64 x y = ((x &&& (18446744073709551615 ^^^ y) : Nat) : Int) := by
  have h : (x &&& (18446744073709551615 ^^^ y)) < 2 ^ 64 := Nat.lt_of_le_of_lt Nat.and_le_left hx
  have e : (~~~(BitVec.ofInt IntKind.u64.bits (y : Int))).toNat = 18446744073709551615 ^^^ y := by
    apply Nat.eq_of_testBit_eq
    intro i
    rw [BitVec.testBit_toNat, BitVec.getLsbD_not, ← BitVec.testBit_toNat, u64_toNat hy, Nat.testBit_xor, show (18446744073709551615 : Nat) = 2 ^ 64 - 1 from rfl, Nat.testBit_two_pow_sub_one]
    show (decide (i < 64) && !y.testBit i) = _
    by_cases hi : i < 64
    · simp [hi]
    · have : y.testBit i = false := Nat.testBit_lt_two_pow (Nat.lt_of_lt_of_le hy (Nat.pow_le_pow_right (n := 2) (by decide) (by omega : 64 ≤ i)))
      simp [hi, this]
  unfold andNotI; rw [BitVec.toNat_and, u64_toNat hx, e]; exact wrap_u64 (by omega) (by omega)
theorem cnt_two (ws vs : List Nat) (o : Nat → Nat → Nat) (bo : Bool → Bool → Bool) (h : ∀ x y i, i < 64 → (o x y).testBit i = bo (x.testBit i) (y.testBit i)) (j : Nat) :
    cnt (64 * (j + 1)) (fun t => bo (wbit ws t) (wbit vs t)) = cnt (64 * j) (fun t => bo (wbit ws t) (wbit vs t)) + cnt 64 (o (ws.getD j 0) (vs.getD j 0)).testBit := by
  rw [Nat.mul_succ, cnt_add]
  congr 1
  apply cnt_congr
  intro i hi
  rw [h _ _ _ hi]
  unfold wbit
  rw [show (64 * j + i) / 64 = j by omega, show (64 * j + i) % 64 = i by omega]
/-- A row of words, read. -/
def RW (w : World) (q : Nat) (ws : List Nat) : Prop := q < w.heap.size ∧ ∀ i, i < ws.length → w.cell? ⟨q, i, none⟩ = some (.int .u64 (ws.getD i 0 : Nat))
theorem RW.fr0 {w w' : World} {q : Nat} {ws : List Nat} (h : RW w q ws) (f : Fr (fun _ => False) w w') : RW w' q ws :=
  ⟨Nat.lt_of_lt_of_le h.1 f.size, fun i hi => (f.cell (a := ⟨q, i, none⟩) h.1 id).trans (h.2 i hi)⟩
theorem BW.rw {w : World} {b q n : Nat} {ws rest : List Nat} (h : BW w b q n ws rest) : RW w q ws := ⟨h.row.lt, fun i hi => h.word hi⟩

theorem F97_bit : ∀ x y i : Nat, i < 64 → (x &&& (18446744073709551615 ^^^ y)).testBit i = (x.testBit i && !y.testBit i) := by
  intro x y i hi
  rw [Nat.testBit_and, Nat.testBit_xor, show (18446744073709551615 : Nat) = 2 ^ 64 - 1 from rfl, Nat.testBit_two_pow_sub_one, decide_eq_true hi]
  simp
/-- popcntMaskSlice. -/
theorem F97_spec {q q' l l' c d : Nat} {ws vs : List Nat} {k : Value → W} {w : World} (hs : RW w q ws) (ht : RW w q' vs) (hws : ∀ j, ws.getD j 0 < 18446744073709551616) (hvs : ∀ j, vs.getD j 0 < 18446744073709551616)
    (hl : l ≤ ws.length) (hl2 : l ≤ vs.length) (hll : l ≤ l') (h0 : 0 < l) (hlm : l ≤ 16777216)
    (hk : ∀ w', Fr (fun _ => False) w w' → k (.int .u64 (cnt (64 * l) (fun t => wbit ws t && !wbit vs t))) w') : F97 k (some ⟨q, 0, none⟩) l c (some ⟨q', 0, none⟩) l' d w := by
  have two : ∀ j, cnt (64 * (j + 1)) (fun t => wbit ws t && !wbit vs t) = cnt (64 * j) (fun t => wbit ws t && !wbit vs t) + cnt 64 (((ws.getD j 0) &&& (18446744073709551615 ^^^ (vs.getD j 0)))).testBit := fun j => cnt_two ws vs (fun x y => x &&& (18446744073709551615 ^^^ y)) (fun a b => a && !b) F97_bit j
  generalize hg : (fun t => wbit ws t && !wbit vs t) = g at hk two
  unfold F97
  have e1 : subI .i64 ((l : Nat) : Int) 1 = ((l - 1 : Nat) : Int) := by rw [subI_i64 (by omega) (by omega)]; omega
  simp only [NN_mk, e1, Req_iff]
  refine ⟨⟨by omega, by omega⟩, ?_⟩
  refine LoadT_int.2 ⟨_, by rw [Int.toNat_natCast, add_mk, Nat.zero_add]; exact ht.2 (l - 1) (by omega), ?_⟩
  refine F97_L1_rule (fun p1 l1 c1 p2 l2 c2 t0 t1 t2 t3 n' i' w' => p1 = some ⟨q, 0, none⟩ ∧ l1 = l ∧ p2 = some ⟨q', 0, none⟩ ∧ l2 = l' ∧ n' = ((l : Nat) : Int) ∧
      ∃ i d0 d1 d2 d3 : Nat, i' = i ∧ t0 = d0 ∧ t1 = d1 ∧ t2 = d2 ∧ t3 = d3 ∧ i ≤ l ∧ d0 + d1 + d2 + d3 = cnt (64 * i) g ∧ Fr (fun _ => False) w w')
    (fun _ _ _ _ _ _ _ _ _ _ _ i' _ => l - i'.toNat) ?_ ⟨rfl, rfl, rfl, rfl, rfl, 0, 0, 0, 0, 0, rfl, rfl, rfl, rfl, rfl, Nat.zero_le _, rfl, Fr.refl _ _⟩
  rintro p1 l1 c1 p2 l2 c2 t0 t1 t2 t3 n' i' w' ⟨rfl, hl1, rfl, hl3, rfl, i, d0, d1, d2, d3, rfl, rfl, rfl, rfl, rfl, hi, hd, fr⟩
  subst hl1
  unfold F97_L1
  have hc0 := cnt_le (64 * i) g
  have e4 : subI .i64 ((l1 : Nat) : Int) 4 = (l1 : Int) - 4 := subI_i64 (by omega) (by omega)
  rw [e4]
  refine BIf_intro (fun hc => ?_) (fun hc => ?_)
  · have hc := of_decide_eq_true hc
    have hi4 : i + 4 ≤ l1 := by omega
    have ei : ∀ t : Nat, t < 5 → addI .i64 (i : Int) (t : Int) = ((i + t : Nat) : Int) := fun t ht => by rw [addI_i64 (by omega) (by omega)]; omega
    have e1 : addI .i64 (i : Int) 1 = ((i + 1 : Nat) : Int) := ei 1 (by decide)
    have e2 : addI .i64 (i : Int) 2 = ((i + 2 : Nat) : Int) := ei 2 (by decide)
    have e3 : addI .i64 (i : Int) 3 = ((i + 3 : Nat) : Int) := ei 3 (by decide)
    have e5 : addI .i64 (i : Int) 4 = ((i + 4 : Nat) : Int) := ei 4 (by decide)
    refine drw_intro fun w1 f1 z1 => ?_
    replace fr := fr.trans f1 fun _ h => h.elim
    have s1 := hs.fr0 fr
    have t1 := ht.fr0 fr
    refine ⟨⟨by omega, by omega⟩, ?_⟩
    refine LoadT_int.2 ⟨_, by rw [Int.toNat_natCast, add_mk, Nat.zero_add]; exact s1.2 i (by omega), ?_⟩
    refine ⟨⟨by omega, by omega⟩, ?_⟩
    refine LoadT_int.2 ⟨_, by rw [Int.toNat_natCast, add_mk, Nat.zero_add]; exact t1.2 i (by omega), ?_⟩
    rw [andNotI_nat (hws _) (hvs _)]
    refine F93_call (F93_spec (Nat.lt_of_le_of_lt Nat.and_le_left (hws _)) (back_int ?_))
    refine Chk1_iff.2 ⟨by rw [Int.toNat_natCast, add_mk, Nat.zero_add]; exact t1.2 i (by omega), Chk1_iff.2 ⟨by rw [Int.toNat_natCast, add_mk, Nat.zero_add]; exact s1.2 i (by omega), bind_intro ?_⟩⟩
    have h1 := cnt_le 64 ((ws.getD i 0) &&& (18446744073709551615 ^^^ (vs.getD i 0))).testBit
    rw [wrapcnt h1, addI_nat (by omega), e1]
    refine drw_intro fun w2 f2 z2 => ?_
    replace fr := fr.trans f2 fun _ h => h.elim
    have s2 := hs.fr0 fr
    have t2 := ht.fr0 fr
    refine ⟨⟨by omega, by omega⟩, ?_⟩
    refine LoadT_int.2 ⟨_, by rw [Int.toNat_natCast, add_mk, Nat.zero_add]; exact s2.2 (i + 1) (by omega), ?_⟩
    refine ⟨⟨by omega, by omega⟩, ?_⟩
    refine LoadT_int.2 ⟨_, by rw [Int.toNat_natCast, add_mk, Nat.zero_add]; exact t2.2 (i + 1) (by omega), ?_⟩
    rw [andNotI_nat (hws _) (hvs _)]
    refine F93_call (F93_spec (Nat.lt_of_le_of_lt Nat.and_le_left (hws _)) (back_int ?_))
    refine Chk1_iff.2 ⟨by rw [Int.toNat_natCast, add_mk, Nat.zero_add]; exact t2.2 (i + 1) (by omega), Chk1_iff.2 ⟨by rw [Int.toNat_natCast, add_mk, Nat.zero_add]; exact s2.2 (i + 1) (by omega), bind_intro ?_⟩⟩
    have h2 := cnt_le 64 ((ws.getD (i + 1) 0) &&& (18446744073709551615 ^^^ (vs.getD (i + 1) 0))).testBit
    rw [wrapcnt h2, addI_nat (by omega), e2]
    refine drw_intro fun w3 f3 z3 => ?_
    replace fr := fr.trans f3 fun _ h => h.elim
    have s3 := hs.fr0 fr
    have t3 := ht.fr0 fr
    refine ⟨⟨by omega, by omega⟩, ?_⟩
    refine LoadT_int.2 ⟨_, by rw [Int.toNat_natCast, add_mk, Nat.zero_add]; exact s3.2 (i + 2) (by omega), ?_⟩
    refine ⟨⟨by omega, by omega⟩, ?_⟩
    refine LoadT_int.2 ⟨_, by rw [Int.toNat_natCast, add_mk, Nat.zero_add]; exact t3.2 (i + 2) (by omega), ?_⟩
    rw [andNotI_nat (hws _) (hvs _)]
    refine F93_call (F93_spec (Nat.lt_of_le_of_lt Nat.and_le_left (hws _)) (back_int ?_))
    refine Chk1_iff.2 ⟨by rw [Int.toNat_natCast, add_mk, Nat.zero_add]; exact t3.2 (i + 2) (by omega), Chk1_iff.2 ⟨by rw [Int.toNat_natCast, add_mk, Nat.zero_add]; exact s3.2 (i + 2) (by omega), bind_intro ?_⟩⟩
    have h3 := cnt_le 64 ((ws.getD (i + 2) 0) &&& (18446744073709551615 ^^^ (vs.getD (i + 2) 0))).testBit
    rw [wrapcnt h3, addI_nat (by omega), e3]
    refine drw_intro fun w4 f4 z4 => ?_
    replace fr := fr.trans f4 fun _ h => h.elim
    have s4 := hs.fr0 fr
    have t4 := ht.fr0 fr
    refine ⟨⟨by omega, by omega⟩, ?_⟩
    refine LoadT_int.2 ⟨_, by rw [Int.toNat_natCast, add_mk, Nat.zero_add]; exact s4.2 (i + 3) (by omega), ?_⟩
    refine ⟨⟨by omega, by omega⟩, ?_⟩
    refine LoadT_int.2 ⟨_, by rw [Int.toNat_natCast, add_mk, Nat.zero_add]; exact t4.2 (i + 3) (by omega), ?_⟩
    rw [andNotI_nat (hws _) (hvs _)]
    refine F93_call (F93_spec (Nat.lt_of_le_of_lt Nat.and_le_left (hws _)) (back_int ?_))
    refine Chk1_iff.2 ⟨by rw [Int.toNat_natCast, add_mk, Nat.zero_add]; exact t4.2 (i + 3) (by omega), Chk1_iff.2 ⟨by rw [Int.toNat_natCast, add_mk, Nat.zero_add]; exact s4.2 (i + 3) (by omega), bind_intro ?_⟩⟩
    have h4 := cnt_le 64 ((ws.getD (i + 3) 0) &&& (18446744073709551615 ^^^ (vs.getD (i + 3) 0))).testBit
    rw [wrapcnt h4, addI_nat (by omega), e5]
    have q0 := two i
    have q1 : cnt (64 * (i + 2)) g = _ := two (i + 1)
    have q2 : cnt (64 * (i + 3)) g = _ := two (i + 2)
    have q3 : cnt (64 * (i + 4)) g = _ := two (i + 3)
    refine ⟨⟨rfl, rfl, rfl, hl3, rfl, i + 4, _, _, _, _, rfl, rfl, rfl, rfl, rfl, hi4, ?_, fr⟩, by omega⟩
    omega
  · refine bind_intro ?_
    rw [addI_nat (by omega), addI_nat (by omega), addI_nat (by omega), hd]
    clear hd
    refine F97_L2_rule (fun p3 l4 c3 p4 l5 c4 t n2 i2 w2 => p3 = some ⟨q, 0, none⟩ ∧ l4 = l1 ∧ p4 = some ⟨q', 0, none⟩ ∧ l5 = l' ∧ n2 = ((l1 : Nat) : Int) ∧
        ∃ i : Nat, i2 = i ∧ i ≤ l1 ∧ t = ((cnt (64 * i) g : Nat) : Int) ∧ Fr (fun _ => False) w w2)
      (fun _ _ _ _ _ _ _ _ i2 _ => l1 - i2.toNat) ?_ ⟨rfl, rfl, rfl, hl3, rfl, i, rfl, hi, rfl, fr⟩
    clear hc hc0 hi fr i
    rintro p3 l4 c3 p4 l5 c4 t n2 i2 w2 ⟨rfl, hl4, rfl, hl5, rfl, i, rfl, hi, rfl, fr⟩
    subst hl4
    unfold F97_L2
    have hc0 := cnt_le (64 * i) g
    refine BIf_intro (fun hc => ?_) (fun hc => ?_)
    · have hc := of_decide_eq_true hc
      have hi' : i < l4 := by omega
      have e1 : addI .i64 (i : Int) 1 = ((i + 1 : Nat) : Int) := by rw [addI_i64 (by omega) (by omega)]; omega
      refine drw_intro fun w1 f1 z1 => ?_
      replace fr := fr.trans f1 fun _ h => h.elim
      have s1 := hs.fr0 fr
      have t1 := ht.fr0 fr
      refine ⟨⟨by omega, by omega⟩, ?_⟩
      refine LoadT_int.2 ⟨_, by rw [Int.toNat_natCast, add_mk, Nat.zero_add]; exact s1.2 i (by omega), ?_⟩
      refine ⟨⟨by omega, by omega⟩, ?_⟩
      refine LoadT_int.2 ⟨_, by rw [Int.toNat_natCast, add_mk, Nat.zero_add]; exact t1.2 i (by omega), ?_⟩
      rw [andNotI_nat (hws _) (hvs _)]
      refine F93_call (F93_spec (Nat.lt_of_le_of_lt Nat.and_le_left (hws _)) (back_int ?_))
      refine Chk1_iff.2 ⟨by rw [Int.toNat_natCast, add_mk, Nat.zero_add]; exact t1.2 i (by omega), Chk1_iff.2 ⟨by rw [Int.toNat_natCast, add_mk, Nat.zero_add]; exact s1.2 i (by omega), bind_intro ?_⟩⟩
      have h1 := cnt_le 64 ((ws.getD i 0) &&& (18446744073709551615 ^^^ (vs.getD i 0))).testBit
      rw [wrapcnt h1, addI_nat (by omega), e1]
      exact ⟨⟨rfl, rfl, rfl, hl5, rfl, i + 1, rfl, by omega, by rw [two], fr⟩, by omega⟩
    · have hc := of_decide_eq_false hc
      have : i = l4 := by omega
      subst this
      exact hk _ fr

theorem F98_bit : ∀ x y i : Nat, i < 64 → (x ||| y).testBit i = (x.testBit i || y.testBit i) := fun x y i _ => Nat.testBit_or x y i
/-- popcntOrSlice. -/
theorem F98_spec {q q' l l' c d : Nat} {ws vs : List Nat} {k : Value → W} {w : World} (hs : RW w q ws) (ht : RW w q' vs) (hws : ∀ j, ws.getD j 0 < 18446744073709551616) (hvs : ∀ j, vs.getD j 0 < 18446744073709551616)
    (hl : l ≤ ws.length) (hl2 : l ≤ vs.length) (hll : l ≤ l') (h0 : 0 < l) (hlm : l ≤ 16777216)
    (hk : ∀ w', Fr (fun _ => False) w w' → k (.int .u64 (cnt (64 * l) (fun t => wbit ws t || wbit vs t))) w') : F98 k (some ⟨q, 0, none⟩) l c (some ⟨q', 0, none⟩) l' d w := by
  have two : ∀ j, cnt (64 * (j + 1)) (fun t => wbit ws t || wbit vs t) = cnt (64 * j) (fun t => wbit ws t || wbit vs t) + cnt 64 (((ws.getD j 0) ||| (vs.getD j 0))).testBit := fun j => cnt_two ws vs (fun x y => x ||| y) (fun a b => a || b) F98_bit j
  generalize hg : (fun t => wbit ws t || wbit vs t) = g at hk two
  unfold F98
  have e1 : subI .i64 ((l : Nat) : Int) 1 = ((l - 1 : Nat) : Int) := by rw [subI_i64 (by omega) (by omega)]; omega
  simp only [NN_mk, e1, Req_iff]
  refine ⟨⟨by omega, by omega⟩, ?_⟩
  refine LoadT_int.2 ⟨_, by rw [Int.toNat_natCast, add_mk, Nat.zero_add]; exact ht.2 (l - 1) (by omega), ?_⟩
  refine F98_L1_rule (fun p3 l4 c3 p4 l5 c4 t n2 i2 w2 => p3 = some ⟨q, 0, none⟩ ∧ l4 = l ∧ p4 = some ⟨q', 0, none⟩ ∧ l5 = l' ∧ n2 = ((l : Nat) : Int) ∧
        ∃ i : Nat, i2 = i ∧ i ≤ l ∧ t = ((cnt (64 * i) g : Nat) : Int) ∧ Fr (fun _ => False) w w2)
      (fun _ _ _ _ _ _ _ _ i2 _ => l - i2.toNat) ?_ ⟨rfl, rfl, rfl, rfl, rfl, 0, rfl, Nat.zero_le _, rfl, Fr.refl _ _⟩
  rintro p3 l4 c3 p4 l5 c4 t n2 i2 w2 ⟨rfl, hl4, rfl, hl5, rfl, i, rfl, hi, rfl, fr⟩
  subst hl4
  unfold F98_L1
  have hc0 := cnt_le (64 * i) g
  refine BIf_intro (fun hc => ?_) (fun hc => ?_)
  · have hc := of_decide_eq_true hc
    have hi' : i < l4 := by omega
    have e1 : addI .i64 (i : Int) 1 = ((i + 1 : Nat) : Int) := by rw [addI_i64 (by omega) (by omega)]; omega
    refine drw_intro fun w1 f1 z1 => ?_
    replace fr := fr.trans f1 fun _ h => h.elim
    have s1 := hs.fr0 fr
    have t1 := ht.fr0 fr
    refine ⟨⟨by omega, by omega⟩, ?_⟩
    refine LoadT_int.2 ⟨_, by rw [Int.toNat_natCast, add_mk, Nat.zero_add]; exact s1.2 i (by omega), ?_⟩
    refine ⟨⟨by omega, by omega⟩, ?_⟩
    refine LoadT_int.2 ⟨_, by rw [Int.toNat_natCast, add_mk, Nat.zero_add]; exact t1.2 i (by omega), ?_⟩
    rw [orI_nat (hws _) (hvs _)]
    refine F93_call (F93_spec (Nat.or_lt_two_pow (n := 64) (hws _) (hvs _)) (back_int ?_))
    refine Chk1_iff.2 ⟨by rw [Int.toNat_natCast, add_mk, Nat.zero_add]; exact t1.2 i (by omega), Chk1_iff.2 ⟨by rw [Int.toNat_natCast, add_mk, Nat.zero_add]; exact s1.2 i (by omega), bind_intro ?_⟩⟩
    have h1 := cnt_le 64 ((ws.getD i 0) ||| (vs.getD i 0)).testBit
    rw [wrapcnt h1, addI_nat (by omega), e1]
    exact ⟨⟨rfl, rfl, rfl, hl5, rfl, i + 1, rfl, by omega, by rw [two], fr⟩, by omega⟩
  · have hc := of_decide_eq_false hc
    have : i = l4 := by omega
    subst this
    exact hk _ fr

theorem F99_bit : ∀ x y i : Nat, i < 64 → (x &&& y).testBit i = (x.testBit i && y.testBit i) := fun x y i _ => Nat.testBit_and x y i
/-- popcntAndSlice. -/
theorem F99_spec {q q' l l' c d : Nat} {ws vs : List Nat} {k : Value → W} {w : World} (hs : RW w q ws) (ht : RW w q' vs) (hws : ∀ j, ws.getD j 0 < 18446744073709551616) (hvs : ∀ j, vs.getD j 0 < 18446744073709551616)
    (hl : l ≤ ws.length) (hl2 : l ≤ vs.length) (hll : l ≤ l') (h0 : 0 < l) (hlm : l ≤ 16777216)
    (hk : ∀ w', Fr (fun _ => False) w w' → k (.int .u64 (cnt (64 * l) (fun t => wbit ws t && wbit vs t))) w') : F99 k (some ⟨q, 0, none⟩) l c (some ⟨q', 0, none⟩) l' d w := by
  have two : ∀ j, cnt (64 * (j + 1)) (fun t => wbit ws t && wbit vs t) = cnt (64 * j) (fun t => wbit ws t && wbit vs t) + cnt 64 (((ws.getD j 0) &&& (vs.getD j 0))).testBit := fun j => cnt_two ws vs (fun x y => x &&& y) (fun a b => a && b) F99_bit j
  generalize hg : (fun t => wbit ws t && wbit vs t) = g at hk two
  unfold F99
  have e1 : subI .i64 ((l : Nat) : Int) 1 = ((l - 1 : Nat) : Int) := by rw [subI_i64 (by omega) (by omega)]; omega
  simp only [NN_mk, e1, Req_iff]
  refine ⟨⟨by omega, by omega⟩, ?_⟩
  refine LoadT_int.2 ⟨_, by rw [Int.toNat_natCast, add_mk, Nat.zero_add]; exact ht.2 (l - 1) (by omega), ?_⟩
  refine F99_L1_rule (fun p3 l4 c3 p4 l5 c4 t n2 i2 w2 => p3 = some ⟨q, 0, none⟩ ∧ l4 = l ∧ p4 = some ⟨q', 0, none⟩ ∧ l5 = l' ∧ n2 = ((l : Nat) : Int) ∧
        ∃ i : Nat, i2 = i ∧ i ≤ l ∧ t = ((cnt (64 * i) g : Nat) : Int) ∧ Fr (fun _ => False) w w2)
      (fun _ _ _ _ _ _ _ _ i2 _ => l - i2.toNat) ?_ ⟨rfl, rfl, rfl, rfl, rfl, 0, rfl, Nat.zero_le _, rfl, Fr.refl _ _⟩
  rintro p3 l4 c3 p4 l5 c4 t n2 i2 w2 ⟨rfl, hl4, rfl, hl5, rfl, i, rfl, hi, rfl, fr⟩
  subst hl4
  unfold F99_L1
  have hc0 := cnt_le (64 * i) g
  refine BIf_intro (fun hc => ?_) (fun hc => ?_)
  · have hc := of_decide_eq_true hc
    have hi' : i < l4 := by omega
    have e1 : addI .i64 (i : Int) 1 = ((i + 1 : Nat) : Int) := by rw [addI_i64 (by omega) (by omega)]; omega
    refine drw_intro fun w1 f1 z1 => ?_
    replace fr := fr.trans f1 fun _ h => h.elim
    have s1 := hs.fr0 fr
    have t1 := ht.fr0 fr
    refine ⟨⟨by omega, by omega⟩, ?_⟩
    refine LoadT_int.2 ⟨_, by rw [Int.toNat_natCast, add_mk, Nat.zero_add]; exact s1.2 i (by omega), ?_⟩
    refine ⟨⟨by omega, by omega⟩, ?_⟩
    refine LoadT_int.2 ⟨_, by rw [Int.toNat_natCast, add_mk, Nat.zero_add]; exact t1.2 i (by omega), ?_⟩
    rw [andI_nat (hws _) (hvs _)]
    refine F93_call (F93_spec (Nat.and_lt_two_pow (n := 64) _ (hvs _)) (back_int ?_))
    refine Chk1_iff.2 ⟨by rw [Int.toNat_natCast, add_mk, Nat.zero_add]; exact t1.2 i (by omega), Chk1_iff.2 ⟨by rw [Int.toNat_natCast, add_mk, Nat.zero_add]; exact s1.2 i (by omega), bind_intro ?_⟩⟩
    have h1 := cnt_le 64 ((ws.getD i 0) &&& (vs.getD i 0)).testBit
    rw [wrapcnt h1, addI_nat (by omega), e1]
    exact ⟨⟨rfl, rfl, rfl, hl5, rfl, i + 1, rfl, by omega, by rw [two], fr⟩, by omega⟩
  · have hc := of_decide_eq_false hc
    have : i = l4 := by omega
    subst this
    exact hk _ fr

theorem F100_bit : ∀ x y i : Nat, i < 64 → (x ^^^ y).testBit i = (x.testBit i ^^ y.testBit i) := fun x y i _ => Nat.testBit_xor x y i
/-- popcntXorSlice. -/
theorem F100_spec {q q' l l' c d : Nat} {ws vs : List Nat} {k : Value → W} {w : World} (hs : RW w q ws) (ht : RW w q' vs) (hws : ∀ j, ws.getD j 0 < 18446744073709551616) (hvs : ∀ j, vs.getD j 0 < 18446744073709551616)
    (hl : l ≤ ws.length) (hl2 : l ≤ vs.length) (hll : l ≤ l') (h0 : 0 < l) (hlm : l ≤ 16777216)
    (hk : ∀ w', Fr (fun _ => False) w w' → k (.int .u64 (cnt (64 * l) (fun t => wbit ws t ^^ wbit vs t))) w') : F100 k (some ⟨q, 0, none⟩) l c (some ⟨q', 0, none⟩) l' d w := by
  have two : ∀ j, cnt (64 * (j + 1)) (fun t => wbit ws t ^^ wbit vs t) = cnt (64 * j) (fun t => wbit ws t ^^ wbit vs t) + cnt 64 (((ws.getD j 0) ^^^ (vs.getD j 0))).testBit := fun j => cnt_two ws vs (fun x y => x ^^^ y) (fun a b => a ^^ b) F100_bit j
  generalize hg : (fun t => wbit ws t ^^ wbit vs t) = g at hk two
  unfold F100
  have e1 : subI .i64 ((l : Nat) : Int) 1 = ((l - 1 : Nat) : Int) := by rw [subI_i64 (by omega) (by omega)]; omega
  simp only [NN_mk, e1, Req_iff]
  refine ⟨⟨by omega, by omega⟩, ?_⟩
  refine LoadT_int.2 ⟨_, by rw [Int.toNat_natCast, add_mk, Nat.zero_add]; exact ht.2 (l - 1) (by omega), ?_⟩
  refine F100_L1_rule (fun p3 l4 c3 p4 l5 c4 t n2 i2 w2 => p3 = some ⟨q, 0, none⟩ ∧ l4 = l ∧ p4 = some ⟨q', 0, none⟩ ∧ l5 = l' ∧ n2 = ((l : Nat) : Int) ∧
        ∃ i : Nat, i2 = i ∧ i ≤ l ∧ t = ((cnt (64 * i) g : Nat) : Int) ∧ Fr (fun _ => False) w w2)
      (fun _ _ _ _ _ _ _ _ i2 _ => l - i2.toNat) ?_ ⟨rfl, rfl, rfl, rfl, rfl, 0, rfl, Nat.zero_le _, rfl, Fr.refl _ _⟩
  rintro p3 l4 c3 p4 l5 c4 t n2 i2 w2 ⟨rfl, hl4, rfl, hl5, rfl, i, rfl, hi, rfl, fr⟩
  subst hl4
  unfold F100_L1
  have hc0 := cnt_le (64 * i) g
  refine BIf_intro (fun hc => ?_) (fun hc => ?_)
  · have hc := of_decide_eq_true hc
    have hi' : i < l4 := by omega
    have e1 : addI .i64 (i : Int) 1 = ((i + 1 : Nat) : Int) := by rw [addI_i64 (by omega) (by omega)]; omega
    refine drw_intro fun w1 f1 z1 => ?_
    replace fr := fr.trans f1 fun _ h => h.elim
    have s1 := hs.fr0 fr
    have t1 := ht.fr0 fr
    refine ⟨⟨by omega, by omega⟩, ?_⟩
    refine LoadT_int.2 ⟨_, by rw [Int.toNat_natCast, add_mk, Nat.zero_add]; exact s1.2 i (by omega), ?_⟩
    refine ⟨⟨by omega, by omega⟩, ?_⟩
    refine LoadT_int.2 ⟨_, by rw [Int.toNat_natCast, add_mk, Nat.zero_add]; exact t1.2 i (by omega), ?_⟩
    rw [xorI_nat (hws _) (hvs _)]
    refine F93_call (F93_spec (Nat.xor_lt_two_pow (n := 64) (hws _) (hvs _)) (back_int ?_))
    refine Chk1_iff.2 ⟨by rw [Int.toNat_natCast, add_mk, Nat.zero_add]; exact t1.2 i (by omega), Chk1_iff.2 ⟨by rw [Int.toNat_natCast, add_mk, Nat.zero_add]; exact s1.2 i (by omega), bind_intro ?_⟩⟩
    have h1 := cnt_le 64 ((ws.getD i 0) ^^^ (vs.getD i 0)).testBit
    rw [wrapcnt h1, addI_nat (by omega), e1]
    exact ⟨⟨rfl, rfl, rfl, hl5, rfl, i + 1, rfl, by omega, by rw [two], fr⟩, by omega⟩
  · have hc := of_decide_eq_false hc
    have : i = l4 := by omega
    subst this
    exact hk _ fr
end Go.Proofs.Ytopdlfecfgimpaa.E
