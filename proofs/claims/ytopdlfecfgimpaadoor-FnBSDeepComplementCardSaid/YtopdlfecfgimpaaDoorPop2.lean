/-
  Counting the bits of two rows of words put together: popcntMaskSlice, popcntOrSlice, popcntAndSlice, popcntXorSlice. Printed by this session's own program pop2.py.
-/
import Derived.Test.YtopdlfecfgimpaaDoorFnsE
import Derived.Test.YtopdlfecfgimpaaDoorSuper0
namespace Go.Proofs.YtopdlfecfgimpaaDoor.E
open Go
set_option linter.unusedSimpArgs false
set_option linter.unusedVariables false
set_option maxRecDepth 100000

theorem andNotI_nat {x y : Nat} (hx : x < 18446744073709551616) (hy : y < 18446744073709551616) : andNotI .u64 x y = ((x &&& (18446744073709551615 ^^^ y) : Nat) : Int) := by
  have h : (x &&& (18446744073709551615 ^^^ y)) < 2 ^ 64 := Nat.lt_of_le_of_lt Nat.and_le_left hx
  have e : (~~~(BitVec.ofInt IntKind.u64.bits (y : Int))).toNat = 18446744073709551615 ^^^ y := by
    apply Nat.eq_of_testBit_eq
    intro i
    rw [BitVec.testBit_toNat, BitVec.getLsbD_not, ← BitVec.testBit_toNat, u64_toNat hy, Nat.testBit_xor, show (18446744073709551615 : Nat) = 2 ^ 64 - 1 from rfl, Nat.testBit_two_pow_sub_one]
    show (decide (i < 64) && !y.testBit i) = _
    by_cases hi : i < 64
    · simp [hi]
    · have : y.testBit i = false := Nat.testBit_lt_two_pow (Nat.lt_of_lt_of_le hy (Nat.pow_le_pow_right (n := 2) (by decide) (by omega : 64 ≤ i)))
      simp [hi, this]
  unfold andNotI; rw [BitVec.toNat_and, u64_toNat hx, e]; exact wrap_u64 (by omega) (by omega)
theorem cnt_two (ws vs : List Nat) (o : Nat → Nat → Nat) (bo : Bool → Bool → Bool) (h : ∀ x y i, i < 64 → (o x y).testBit i = bo (x.testBit i) (y.testBit i)) (j : Nat) :
    cnt (64 * (j + 1)) (fun t => bo (wbit ws t) (wbit vs t)) = cnt (64 * j) (fun t => bo (wbit ws t) (wbit vs t)) + cnt 64 (o (ws.getD j 0) (vs.getD j 0)).testBit := by
  rw [Nat.mul_succ, cnt_add]
  congr 1
  apply cnt_congr
  intro i hi
  rw [h _ _ _ hi]
  unfold wbit
  rw [show (64 * j + i) / 64 = j by omega, show (64 * j + i) % 64 = i by omega]
/-- A row of words, read. -/
def RW (w : World) (q : Nat) (ws : List Nat) : Prop := q < w.heap.size ∧ ∀ i, i < ws.length → w.cell? ⟨q, i, none⟩ = some (.int .u64 (ws.getD i 0 : Nat))
theorem RW.fr0 {w w' : World} {q : Nat} {ws : List Nat} (h : RW w q ws) (f : Fr (fun _ => False) w w') : RW w' q ws :=
  ⟨Nat.lt_of_lt_of_le h.1 f.size, fun i hi => (f.cell (a := ⟨q, i, none⟩) h.1 id).trans (h.2 i hi)⟩
theorem BW.rw {w : World} {b q n : Nat} {ws rest : List Nat} (h : BW w b q n ws rest) : RW w q ws := ⟨h.row.lt, fun i hi => h.word hi⟩

theorem F61_bit : ∀ x y i : Nat, i < 64 → (x ||| y).testBit i = (x.testBit i || y.testBit i) := fun x y i _ => Nat.testBit_or x y i
/-- popcntOrSlice. -/
theorem F61_spec {q q' l l' c d : Nat} {ws vs : List Nat} {k : Value → W} {w : World} (hs : RW w q ws) (ht : RW w q' vs) (hws : ∀ j, ws.getD j 0 < 18446744073709551616) (hvs : ∀ j, vs.getD j 0 < 18446744073709551616)
    (hl : l ≤ ws.length) (hl2 : l ≤ vs.length) (hll : l ≤ l') (h0 : 0 < l) (hlm : l ≤ 16777216)
    (hk : ∀ w', Fr (fun _ => False) w w' → k (.int .u64 (cnt (64 * l) (fun t => wbit ws t || wbit vs t))) w') : F61 k (some ⟨q, 0, none⟩) l c (some ⟨q', 0, none⟩) l' d w := by
  have two : ∀ j, cnt (64 * (j + 1)) (fun t => wbit ws t || wbit vs t) = cnt (64 * j) (fun t => wbit ws t || wbit vs t) + cnt 64 (((ws.getD j 0) ||| (vs.getD j 0))).testBit := fun j => cnt_two ws vs (fun x y => x ||| y) (fun a b => a || b) F61_bit j
  generalize hg : (fun t => wbit ws t || wbit vs t) = g at hk two
  unfold F61
  have e1 : subI .i64 ((l : Nat) : Int) 1 = ((l - 1 : Nat) : Int) := by rw [subI_i64 (by omega) (by omega)]; omega
  simp only [NN_mk, e1, Req_iff]
  refine ⟨⟨by omega, by omega⟩, ?_⟩
  refine LoadT_int.2 ⟨_, by rw [Int.toNat_natCast, add_mk, Nat.zero_add]; exact ht.2 (l - 1) (by omega), ?_⟩
  refine F61_L1_rule (fun p3 l4 c3 p4 l5 c4 t n2 i2 w2 => p3 = some ⟨q, 0, none⟩ ∧ l4 = l ∧ p4 = some ⟨q', 0, none⟩ ∧ l5 = l' ∧ n2 = ((l : Nat) : Int) ∧
        ∃ i : Nat, i2 = i ∧ i ≤ l ∧ t = ((cnt (64 * i) g : Nat) : Int) ∧ Fr (fun _ => False) w w2)
      (fun _ _ _ _ _ _ _ _ i2 _ => l - i2.toNat) ?_ ⟨rfl, rfl, rfl, rfl, rfl, 0, rfl, Nat.zero_le _, rfl, Fr.refl _ _⟩
  rintro p3 l4 c3 p4 l5 c4 t n2 i2 w2 ⟨rfl, hl4, rfl, hl5, rfl, i, rfl, hi, rfl, fr⟩
  subst hl4
  unfold F61_L1
  have hc0 := cnt_le (64 * i) g
  refine BIf_intro (fun hc => ?_) (fun hc => ?_)
  · have hc := of_decide_eq_true hc
    have hi' : i < l4 := by omega
    have e1 : addI .i64 (i : Int) 1 = ((i + 1 : Nat) : Int) := by rw [addI_i64 (by omega) (by omega)]; omega
    refine drw_intro fun w1 f1 z1 => ?_
    replace fr := fr.trans f1 fun _ h => h.elim
    have s1 := hs.fr0 fr
    have t1 := ht.fr0 fr
    refine ⟨⟨by omega, by omega⟩, ?_⟩
    refine LoadT_int.2 ⟨_, by rw [Int.toNat_natCast, add_mk, Nat.zero_add]; exact s1.2 i (by omega), ?_⟩
    refine ⟨⟨by omega, by omega⟩, ?_⟩
    refine LoadT_int.2 ⟨_, by rw [Int.toNat_natCast, add_mk, Nat.zero_add]; exact t1.2 i (by omega), ?_⟩
    rw [orI_nat (hws _) (hvs _)]
    refine F56_call (F56_spec (Nat.or_lt_two_pow (n := 64) (hws _) (hvs _)) (back_int ?_))
    refine Chk1_iff.2 ⟨by rw [Int.toNat_natCast, add_mk, Nat.zero_add]; exact t1.2 i (by omega), Chk1_iff.2 ⟨by rw [Int.toNat_natCast, add_mk, Nat.zero_add]; exact s1.2 i (by omega), bind_intro ?_⟩⟩
    have h1 := cnt_le 64 ((ws.getD i 0) ||| (vs.getD i 0)).testBit
    rw [wrapcnt h1, addI_nat (by omega), e1]
    exact ⟨⟨rfl, rfl, rfl, hl5, rfl, i + 1, rfl, by omega, by rw [two], fr⟩, by omega⟩
  · have hc := of_decide_eq_false hc
    have : i = l4 := by omega
    subst this
    exact hk _ fr

end Go.Proofs.YtopdlfecfgimpaaDoor.E
