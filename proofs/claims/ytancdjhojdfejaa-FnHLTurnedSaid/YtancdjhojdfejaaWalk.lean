/-
  The Hilbert curve's functions walked: Encode gives 'enc', Decode gives 'dec'.
-/
import Derived.Test.YtancdjhojdfejaaFnsA
import Derived.Test.YtancdjhojdfejaaMem
import Derived.Test.YtancdjhojdfejaaArith
import Derived.Test.YtancdjhojdfejaaPlain
namespace Go.Proofs.Ytancdjhojdfejaa.E
open Go Go.Proofs.Ytancdjhojdfejaa.H
set_option linter.unusedSimpArgs false

theorem pow_bd {j : Nat} (h : j ≤ 30) : (0 : Int) < 2 ^ j ∧ (2 : Int) ^ j ≤ 1073741824 := by
  refine ⟨pow_pos' j, ?_⟩
  have h1 : (2 : Nat) ^ j ≤ 2 ^ 30 := Nat.pow_le_pow_right (by decide) h
  have h2 : ((2 ^ j : Nat) : Int) ≤ ((2 ^ 30 : Nat) : Int) := Int.ofNat_le.2 h1
  simpa using h2

theorem andI_i32 (a b : Int) : andI .i32 a b = IntKind.wrap .i32 ((BitVec.ofInt 32 a &&& BitVec.ofInt 32 b).toNat : Nat) := rfl
theorem and_bit (x : Int) {j : Nat} (h : j ≤ 30) : decide (andI .i32 x (2 ^ j) > 0) = decide (bt x j = 1) := by
  have hp := pow_bd h
  have hb : (BitVec.ofInt 32 (2 ^ j)) = BitVec.twoPow 32 j := by
    apply BitVec.eq_of_toNat_eq
    have e1 : ((2 : Int) ^ j) = ((2 ^ j : Nat) : Int) := by simp
    have e2 := toNat_ofInt_nat .i32 (2 ^ j) (Nat.pow_lt_pow_right (by decide) (by show j < 32; omega))
    have e3 : (BitVec.twoPow 32 j).toNat = 2 ^ j := by rw [BitVec.toNat_twoPow, Nat.mod_eq_of_lt (Nat.pow_lt_pow_right (by decide) (by omega))]
    rw [e1, e3]; exact e2
  have hbit : (BitVec.ofInt 32 x).getLsbD j = decide (bt x j = 1) := by
    have e1 : (BitVec.ofInt 32 x).toNat = (x % 2 ^ 32).toNat := toNat_ofInt .i32 x
    rw [← BitVec.testBit_toNat, e1, Nat.testBit_eq_decide_div_mod_eq]
    have h0 : 0 ≤ x % 2 ^ 32 := Int.emod_nonneg _ (by decide)
    have hx : bt (x % 2 ^ 32) j = bt x j := by
      have h1 : x = x % 2 ^ 32 + 2 ^ (j + 1) * (2 ^ (31 - j) * (x / 2 ^ 32)) := by
        rw [← Int.mul_assoc, ← Int.pow_add, show j + 1 + (31 - j) = 32 by omega]
        have := Int.mul_ediv_add_emod x (2 ^ 32); omega
      conv => rhs; rw [h1]
      rw [bt_add]
    rw [← hx]
    unfold bt
    have h2 : ((x % 2 ^ 32).toNat : Int) = x % 2 ^ 32 := Int.toNat_of_nonneg h0
    congr 1
    rw [eq_iff_iff, ← h2, show ((2 : Int) ^ j) = ((2 ^ j : Nat) : Int) by simp]
    show (x % 2 ^ 32).toNat / 2 ^ j % 2 = 1 ↔ _
    rw [← Int.natCast_ediv]
    omega
  rw [andI_i32, hb, BitVec.and_twoPow, hbit]
  by_cases hc : bt x j = 1
  · simp only [hc, decide_true, if_true, BitVec.toNat_twoPow]
    rw [Nat.mod_eq_of_lt (Nat.pow_lt_pow_right (by decide) (by omega))]
    have : (((2 ^ j : Nat)) : Int) = 2 ^ j := by simp
    rw [this, wrap_i32 (by omega) (by omega)]
    simp [hp.1]
  · simp [hc]
    decide

theorem F8_spec {b : Bool} {k : Value → W} {w : World} (h : k (.int .i32 (if b then 1 else 0)) w) : F8 k b w := by
  unfold F8; cases b <;> exact h

/-- rotate, on two cells that are apart. -/
theorem F9_spec {j : Nat} {rx ry x y : Int} {p q : Addr} {k : Value → W} {w : World} (hj : j ≤ 30) (hp : w.cell? p = some (.int .i32 x)) (hq : w.cell? q = some (.int .i32 y))
    (fp : w.frozen? p = false) (fq : w.frozen? q = false) (hne : p ≠ q)
    (hk : ∀ w' s t, w'.cell? p = some (.int .i32 (rotX j rx ry x y + 2 ^ j * s)) → w'.cell? q = some (.int .i32 (rotY j rx ry x y + 2 ^ j * t)) → w'.frozen? p = false → w'.frozen? q = false →
      Fr (fun b => b = p.block ∨ b = q.block) w w' → w'.heap.size = w.heap.size → k (.tuple #[]) w') : F9 k (2 ^ j) rx ry (some p) (some q) w := by
  have hb := pow_bd hj
  have e1 : subI .i32 (2 ^ j) 1 = 2 ^ j - 1 := subI_i32 (by omega) (by omega)
  have hne' : q ≠ p := fun h => hne h.symm
  unfold F9
  refine BIf_intro (fun h1 => ?_) (fun h1 => ?_)
  · have h1 : ry = 0 := by simpa using h1
    subst h1
    refine BIf_intro (fun h2 => ?_) (fun h2 => ?_)
    · have h2 : rx = 1 := by simpa using h2
      subst h2
      obtain ⟨s1, hs1⟩ := wrap_off .i32 (2 ^ j - 1 - x) j (by show j ≤ 32; omega)
      obtain ⟨s2, hs2⟩ := wrap_off .i32 (2 ^ j - 1 - y) j (by show j ≤ 32; omega)
      simp [e1, hp, hq, hne, hne', fp, fq, F9_J1]
      refine hk _ s2 s1 ?_ ?_ ?_ ?_ ?_ ?_
      · simp [hp, hq, hne, hne', fp, fq, F9_J1, rotX, subI, hs2]
      · simp [hp, hq, hne, hne', fp, fq, F9_J1, rotY, subI, hs1]
      · simp [fp]
      · simp [fq]
      · refine ((((Fr.setCell _ _ _ (.inl rfl)).trans (Fr.setCell (S := fun b => b = p.block ∨ b = q.block) _ _ _ (.inr rfl)) fun b h => .inl h).trans (Fr.setCell (S := fun b => b = p.block ∨ b = q.block) _ _ _ (.inl rfl)) fun b h => .inl h).trans (Fr.setCell (S := fun b => b = p.block ∨ b = q.block) _ _ _ (.inr rfl)) fun b h => .inl h)
      · simp
    · have h2 : rx ≠ 1 := by simpa using h2
      simp [hp, hq, hne, hne', fp, fq, F9_J1]
      refine hk _ 0 0 ?_ ?_ ?_ ?_ ?_ ?_
      · simp [hp, hq, hne, hne', rotX, h2]
      · simp [hp, hq, hne, hne', rotY, h2]
      · simp [fp]
      · simp [fq]
      · exact (Fr.setCell _ _ _ (.inl rfl)).trans (Fr.setCell (S := fun b => b = p.block ∨ b = q.block) _ _ _ (.inr rfl)) fun b h => .inl h
      · simp
  · have h1 : ry ≠ 0 := by simpa using h1
    exact hk _ 0 0 (by simp [rotX, h1, hp]) (by simp [rotY, h1, hq]) fp fq (Fr.refl _ _) rfl

/-- rotate, on two small cells that are apart. -/
theorem F9_small {j : Nat} {rx ry x y : Int} {p q : Addr} {k : Value → W} {w : World} (hj : j ≤ 30) (hp : w.cell? p = some (.int .i32 x)) (hq : w.cell? q = some (.int .i32 y))
    (fp : w.frozen? p = false) (fq : w.frozen? q = false) (hne : p ≠ q) (bx : 0 ≤ x ∧ x < 2 ^ j) (b_y : 0 ≤ y ∧ y < 2 ^ j)
    (hk : ∀ w', w'.cell? p = some (.int .i32 (rotX j rx ry x y)) → w'.cell? q = some (.int .i32 (rotY j rx ry x y)) → w'.frozen? p = false → w'.frozen? q = false →
      Fr (fun b => b = p.block ∨ b = q.block) w w' → w'.heap.size = w.heap.size → k (.tuple #[]) w') : F9 k (2 ^ j) rx ry (some p) (some q) w := by
  have hb := pow_bd hj
  have e1 : subI .i32 (2 ^ j) 1 = 2 ^ j - 1 := subI_i32 (by omega) (by omega)
  have e2 : subI .i32 (2 ^ j - 1) x = 2 ^ j - 1 - x := subI_i32 (by omega) (by omega)
  have e3 : subI .i32 (2 ^ j - 1) y = 2 ^ j - 1 - y := subI_i32 (by omega) (by omega)
  have hne' : q ≠ p := fun h => hne h.symm
  unfold F9
  refine BIf_intro (fun h1 => ?_) (fun h1 => ?_)
  · have h1 : ry = 0 := by simpa using h1
    subst h1
    refine BIf_intro (fun h2 => ?_) (fun h2 => ?_)
    · have h2 : rx = 1 := by simpa using h2
      subst h2
      simp [e1, e2, e3, hp, hq, hne, hne', fp, fq, F9_J1]
      refine hk _ ?_ ?_ ?_ ?_ ?_ ?_
      · simp [hp, hq, hne, hne', fp, fq, F9_J1, rotX]
      · simp [hp, hq, hne, hne', fp, fq, F9_J1, rotY]
      · simp [fp]
      · simp [fq]
      · refine ((((Fr.setCell _ _ _ (.inl rfl)).trans (Fr.setCell (S := fun b => b = p.block ∨ b = q.block) _ _ _ (.inr rfl)) fun b h => .inl h).trans (Fr.setCell (S := fun b => b = p.block ∨ b = q.block) _ _ _ (.inl rfl)) fun b h => .inl h).trans (Fr.setCell (S := fun b => b = p.block ∨ b = q.block) _ _ _ (.inr rfl)) fun b h => .inl h)
      · simp
    · have h2 : rx ≠ 1 := by simpa using h2
      simp [hp, hq, hne, hne', fp, fq, F9_J1]
      refine hk _ ?_ ?_ ?_ ?_ ?_ ?_
      · simp [hp, hq, hne, hne', rotX, h2]
      · simp [hp, hq, hne, hne', rotY, h2]
      · simp [fp]
      · simp [fq]
      · exact (Fr.setCell _ _ _ (.inl rfl)).trans (Fr.setCell (S := fun b => b = p.block ∨ b = q.block) _ _ _ (.inr rfl)) fun b h => .inl h
      · simp
  · have h1 : ry ≠ 0 := by simpa using h1
    exact hk _ (by simp [rotX, h1, hp]) (by simp [rotY, h1, hq]) fp fq (Fr.refl _ _) rfl

theorem quarter_go {rx ry : Int} (h1 : rx = 0 ∨ rx = 1) (h2 : ry = 0 ∨ ry = 1) : IntKind.wrap .i64 (xorI .i32 (mulI .i32 3 rx) ry) = quarter rx ry := by
  rcases h1 with rfl | rfl <;> rcases h2 with rfl | rfl <;> decide

theorem pow4 {j : Nat} (h : j ≤ 30) : (2 : Int) ^ j * 2 ^ j = 4 ^ j ∧ (4 : Int) ^ j ≤ 1152921504606846976 := by
  refine ⟨by rw [← Int.mul_pow]; rfl, ?_⟩
  have h1 : (4 : Nat) ^ j ≤ 4 ^ 30 := Nat.pow_le_pow_right (by decide) h
  have h2 : ((4 ^ j : Nat) : Int) ≤ ((4 ^ 30 : Nat) : Int) := Int.ofNat_le.2 h1
  simpa using h2

theorem wrap_small {n : Int} (h0 : 0 ≤ n) (h1 : n ≤ 1152921504606846976) : IntKind.wrap .i64 n = n := wrap_i64 (by omega) (by omega)
theorem arith1 {d q e E : Int} (hd : 0 ≤ d) (h0 : 0 ≤ q) (he : d + (q + e) = E) (he0 : 0 ≤ e) (hE : E < 4611686018427387904) :
    (-9223372036854775808 ≤ q ∧ q < 9223372036854775808) ∧ (-9223372036854775808 ≤ d + q ∧ d + q < 9223372036854775808) ∧ 0 ≤ d + q := by omega
theorem half_pow {j : Nat} (hj : j ≤ 30) : quoI .i32 ((2 : Int) ^ j) 2 = (if j = 0 then 0 else 2 ^ (j - 1)) ∧ (quoI .i32 ((2 : Int) ^ j) 2).toNat < ((2 : Int) ^ j).toNat := by
  have hb := pow_bd hj
  have h1 : quoI .i32 ((2 : Int) ^ j) 2 = 2 ^ j / 2 := quoI_i32 (by omega) (by decide) (by omega)
  rw [h1]
  refine ⟨?_, by omega⟩
  cases j with
  | zero => rfl
  | succ i => rw [if_neg (by omega), Nat.add_sub_cancel, Int.pow_succ]; omega

theorem two31 : (2 : Int) ^ 31 = 2147483648 := by decide
theorem four31 : (4 : Int) ^ 31 = 4611686018427387904 := by decide
/-- Encode. -/
theorem F6_spec {x y : Int} {k : Value → W} {w : World} (hk : ∀ w', Fr (fun _ => False) w w' → k (.int .i64 (enc 31 x y)) w') : F6 k x y w := by
  have hE := enc_bd 31 x y
  rw [four31] at hE
  generalize hE0 : enc 31 x y = E at hk hE
  unfold F6
  simp only [New_iff]
  generalize hp : (⟨w.heap.size, 0, none⟩ : Addr) = p
  generalize hq : (⟨(w.alloc (.cells [Value.int .i32 x].toArray 21)).heap.size, 0, none⟩ : Addr) = q
  have hpb : p.block = w.heap.size := by rw [← hp]
  have hqb : q.block = w.heap.size + 1 := by rw [← hq]; simp
  have hne : p ≠ q := fun e => by have := congrArg Addr.block e; omega
  refine F6_L1_rule (fun p' q' d s w1 => p' = p ∧ q' = q ∧ Fr (fun _ => False) w w1 ∧ w.heap.size + 2 ≤ w1.heap.size ∧ w1.frozen? p = false ∧ w1.frozen? q = false ∧
      ∃ (m : Nat) (u v : Int), m ≤ 31 ∧ s = (if m = 0 then 0 else 2 ^ (m - 1)) ∧ w1.cell? p = some (.int .i32 u) ∧ w1.cell? q = some (.int .i32 v) ∧ 0 ≤ d ∧ d + enc m u v = E)
    (fun _ _ _ s _ => s.toNat) ?_ ?_
  rotate_left
  · refine ⟨rfl, rfl, ?_, by simp, ?_, ?_, 31, x, y, Nat.le_refl _, by simp, ?_, ?_, Int.le_refl _, by rw [Int.zero_add]; exact hE0⟩
    · exact (Fr.alloc _ _ _).trans (Fr.alloc (fun _ => False) _ _) (fun b h => .inl h)
    · simp [hpb]
    · simp [hqb]
    · rw [← hp]; simp
    · rw [← hq]; simp
  · rintro p' q' d s w1 ⟨rfl, rfl, hfr, hsz, fp, fq, m, u, v, hm, hs, hu, hv, hd, he⟩
    unfold F6_L1
    refine BIf_intro (fun hc => ?_) (fun hc => ?_)
    · have hc := of_decide_eq_true hc
      cases m with
      | zero => rw [if_pos rfl] at hs; omega
      | succ j =>
        simp only [Nat.add_sub_cancel, Nat.succ_ne_zero, if_false] at hs
        subst hs
        have hj : j ≤ 30 := by omega
        have hb := pow_bd hj
        have h4 := pow4 hj
        simp only [LoadT_int, hu, Option.some.injEq, Value.int.injEq, true_and, exists_eq_left']
        refine F8_call (F8_spec (back_int ?_))
        simp only [LoadT_int, hv, Option.some.injEq, Value.int.injEq, true_and, exists_eq_left']
        refine F8_call (F8_spec (back_int ?_))
        rw [and_bit u hj, and_bit v hj]
        have eu : (if decide (bt u j = 1) = true then (1 : Int) else 0) = bt u j := by rcases bt01 u j with h | h <;> simp [h]
        have ev : (if decide (bt v j = 1) = true then (1 : Int) else 0) = bt v j := by rcases bt01 v j with h | h <;> simp [h]
        rw [eu, ev]
        refine F9_call (F9_spec hj hu hv fp fq hne fun w2 s t hu2 hv2 fp2 fq2 hfr2 hsz2 => back0 ?_)
        refine ⟨by decide, ?_⟩
        have hq1 := quarter_bd (bt01 u j) (bt01 v j)
        have hw : IntKind.wrap .i64 ((2 : Int) ^ j) = 2 ^ j := wrap_i64 (by omega) (by omega)
        simp only [enc] at he
        have hE2 := enc_bd j (rotX j (bt u j) (bt v j) u v) (rotY j (bt u j) (bt v j) u v)
        have hprod0 : 0 ≤ 4 ^ j * quarter (bt u j) (bt v j) := Int.mul_nonneg (Int.le_of_lt (four_pos j)) hq1.1
        have e1 : mulI .i64 (IntKind.wrap .i64 ((2 : Int) ^ j)) (IntKind.wrap .i64 (2 ^ j)) = 4 ^ j := by
          rw [hw]; unfold mulI; rw [h4.1]; exact wrap_small (Int.le_of_lt (four_pos j)) h4.2
        obtain ⟨hA, hB, hC⟩ := arith1 hd hprod0 he hE2.1 hE.2
        rw [quarter_go (bt01 u j) (bt01 v j), e1]
        have e2 : mulI .i64 (4 ^ j) (quarter (bt u j) (bt v j)) = 4 ^ j * quarter (bt u j) (bt v j) := wrap_i64 hA.1 hA.2
        rw [e2]
        have e3 : addI .i64 d (4 ^ j * quarter (bt u j) (bt v j)) = d + 4 ^ j * quarter (bt u j) (bt v j) := wrap_i64 hB.1 hB.2
        rw [e3]
        obtain ⟨hq2, hq3⟩ := half_pow hj
        refine ⟨⟨hfr.trans hfr2 fun b h => .inr ?_, ?_, fp2, fq2, j, _, _, Nat.le_of_succ_le hm, hq2, hu2, hv2, hC, ?_⟩, hq3⟩
        · rcases h with rfl | rfl
          · rw [hpb]; exact Nat.le_refl _
          · rw [hqb]; exact Nat.le_succ _
        · rw [hsz2]; exact hsz
        · rw [enc_congr, Int.add_assoc]; exact he
    · have hc := of_decide_eq_false hc
      have hm0 : m = 0 := by
        cases m with
        | zero => rfl
        | succ j => have := pow_pos' j; simp only [Nat.succ_ne_zero, if_false, Nat.add_sub_cancel] at hs; omega
      subst hm0
      simp only [enc, Int.add_zero] at he
      rw [he]
      exact hk w1 hfr

theorem dec_1 (j : Nat) (h : Int) : (dec (j + 1) h).1 = rotX j (h / 4 ^ j / 2 % 2) ((h / 4 ^ j + h / 4 ^ j / 2 % 2) % 2) (dec j h).1 (dec j h).2 + 2 ^ j * (h / 4 ^ j / 2 % 2) := rfl
theorem dec_2 (j : Nat) (h : Int) : (dec (j + 1) h).2 = rotY j (h / 4 ^ j / 2 % 2) ((h / 4 ^ j + h / 4 ^ j / 2 % 2) % 2) (dec j h).1 (dec j h).2 + 2 ^ j * ((h / 4 ^ j + h / 4 ^ j / 2 % 2) % 2) := rfl

theorem andI_one {a : Int} (h0 : 0 ≤ a) (h1 : a < 9223372036854775808) : andI .i64 1 a = a % 2 := by
  obtain ⟨n, rfl⟩ := Int.eq_ofNat_of_zero_le h0
  have e1 : (BitVec.ofInt IntKind.i64.bits (1 : Int)).toNat = 1 := by decide
  have e2 := toNat_ofInt_nat .i64 n (by show n < 2 ^ 64; omega)
  have e3 : (BitVec.ofInt IntKind.i64.bits (1 : Int) &&& BitVec.ofInt IntKind.i64.bits (n : Int)).toNat = n % 2 := by
    rw [BitVec.toNat_and, e1, e2, Nat.and_comm, Nat.and_one_is_mod]
  unfold andI
  rw [e3]
  exact wrap_i64 (by omega) (by omega)
theorem xorI_bit {a b : Int} (h0 : 0 ≤ a) (h1 : a < 9223372036854775808) (hb : b = 0 ∨ b = 1) : ∃ c, xorI .i64 a b = c ∧ 0 ≤ c ∧ c < 9223372036854775808 ∧ c % 2 = (a + b) % 2 := by
  obtain ⟨n, rfl⟩ := Int.eq_ofNat_of_zero_le h0
  have e2 := toNat_ofInt_nat .i64 n (by show n < 2 ^ 64; omega)
  obtain ⟨m, rfl, hm⟩ : ∃ m : Nat, b = m ∧ m ≤ 1 := by
    rcases hb with rfl | rfl
    · exact ⟨0, rfl, by omega⟩
    · exact ⟨1, rfl, by omega⟩
  have e1 := toNat_ofInt_nat .i64 m (by show m < 2 ^ 64; omega)
  have e3 : (BitVec.ofInt IntKind.i64.bits (n : Int) ^^^ BitVec.ofInt IntKind.i64.bits (m : Int)).toNat = n ^^^ m := by rw [BitVec.toNat_xor, e1, e2]
  have hlt : n ^^^ m < 2 ^ 63 := Nat.xor_lt_two_pow (by omega) (by omega)
  have hmod : (n ^^^ m) % 2 = (n + m) % 2 := by
    have : (n ^^^ m) % 2 = (n % 2) ^^^ (m % 2) := Nat.xor_mod_two_pow (n := 1)
    rw [this]
    rcases Nat.mod_two_eq_zero_or_one n with h | h <;> rcases Nat.mod_two_eq_zero_or_one m with h' | h' <;> simp [h, h'] <;> omega
  refine ⟨((n ^^^ m : Nat) : Int), ?_, by omega, by omega, by omega⟩
  unfold xorI
  rw [e3]
  exact wrap_i64 (by omega) (by omega)

/-- Decode. -/
theorem F7_spec {h : Int} {k : Value → W} {w : World} (h0 : 0 ≤ h) (h1 : h < 4611686018427387904) (hk : ∀ w', Fr (fun _ => False) w w' → k (.tuple #[.int .i32 (dec 31 h).1, .int .i32 (dec 31 h).2]) w') : F7 k h w := by
  generalize hD : (31 : Nat) = N at hk
  unfold F7
  simp only [New_iff]
  generalize hp : (⟨w.heap.size, 0, none⟩ : Addr) = p
  generalize hq : (⟨(w.alloc (.cells [Value.int .i32 0].toArray 21)).heap.size, 0, none⟩ : Addr) = q
  have hpb : p.block = w.heap.size := by rw [← hp]
  have hqb : q.block = w.heap.size + 1 := by rw [← hq]; simp
  have hne : p ≠ q := fun e => by have := congrArg Addr.block e; omega
  refine F7_L1_rule (fun p' q' t s w1 => p' = p ∧ q' = q ∧ Fr (fun _ => False) w w1 ∧ w.heap.size + 2 ≤ w1.heap.size ∧ w1.frozen? p = false ∧ w1.frozen? q = false ∧
      ∃ (j : Nat), j ≤ N ∧ s = 2 ^ j ∧ w1.cell? p = some (.int .i32 (dec j h).1) ∧ w1.cell? q = some (.int .i32 (dec j h).2) ∧ t = h / 4 ^ j)
    (fun _ _ _ s _ => (2147483648 - s).toNat) ?_ ?_
  rotate_left
  · refine ⟨rfl, rfl, ?_, by simp, ?_, ?_, 0, Nat.zero_le _, rfl, ?_, ?_, (Int.ediv_one h).symm⟩
    · exact (Fr.alloc _ _ _).trans (Fr.alloc (fun _ => False) _ _) (fun b h => .inl h)
    · simp [hpb]
    · simp [hqb]
    · rw [← hp]; simp [dec]
    · rw [← hq]; simp [dec]
  · rintro p' q' t s w1 ⟨hp', hq', hfr, hsz, fp, fq, j, hj, hs, hu, hv, ht⟩
    subst hp' hq'
    subst hs
    subst ht
    unfold F7_L1
    generalize hcb : decide ((2 : Int) ^ j < 2147483648) = cb
    refine BIf_intro (fun hc => ?_) (fun hc => ?_)
    · have hc := of_decide_eq_true (hcb.trans hc)
      have hj : j ≤ 30 := by
        rcases Nat.lt_or_ge j 31 with h | h
        · exact Nat.le_of_lt_succ h
        · have : j = 31 := by omega
          rw [this, two31] at hc
          exact absurd hc (Int.lt_irrefl _)
      have hb := pow_bd hj
      have hb' := pow_bd (j := j) hj
      have ht0 : 0 ≤ h / 4 ^ j := Int.ediv_nonneg h0 (Int.le_of_lt (four_pos j))
      have ht1 : h / 4 ^ j ≤ h := Int.ediv_le_self _ h0
      refine ⟨by decide, ?_⟩
      have q1 : quoI .i64 (h / 4 ^ j) 2 = h / 4 ^ j / 2 := quoI_i64 ht0 (by decide) (by omega)
      have erx : andI .i64 1 (quoI .i64 (h / 4 ^ j) 2) = h / 4 ^ j / 2 % 2 := by rw [q1]; exact andI_one (by omega) (by omega)
      rw [erx, Bind_iff]
      obtain ⟨c, hc1, hc2, hc3, hc4⟩ := xorI_bit (b := h / 4 ^ j / 2 % 2) ht0 (by omega) (by omega)
      have ery : andI .i64 1 (xorI .i64 (h / 4 ^ j) (h / 4 ^ j / 2 % 2)) = (h / 4 ^ j + h / 4 ^ j / 2 % 2) % 2 := by rw [hc1, andI_one hc2 hc3, hc4]
      rw [ery, Bind_iff]
      have hd := dec_bd (j + 1) h
      rw [dec_1, dec_2] at hd
      have d1 := dec_1 j h
      have d2 := dec_2 j h
      have e4 : h / 4 ^ j / 4 = h / 4 ^ (j + 1) := by rw [Int.ediv_ediv_of_nonneg (Int.le_of_lt (four_pos j)), Int.pow_succ]
      have q4 : quoI .i64 (h / 4 ^ j) 4 = h / 4 ^ (j + 1) := by rw [quoI_i64 ht0 (by decide) (by omega), e4]
      generalize hrx : h / 4 ^ j / 2 % 2 = rx at *
      generalize hry : (h / 4 ^ j + rx) % 2 = ry at *
      have r1 : rx = 0 ∨ rx = 1 := by omega
      have r2 : ry = 0 ∨ ry = 1 := by omega
      have w1' : IntKind.wrap .i32 ((2 : Int) ^ j) = 2 ^ j := wrap_i32 (by omega) (by omega)
      have w2' : IntKind.wrap .i32 rx = rx := wrap_i32 (by omega) (by omega)
      have w3' : IntKind.wrap .i32 ry = ry := wrap_i32 (by omega) (by omega)
      rw [w1', w2', w3']
      obtain ⟨b1, b2, b3, b4⟩ := dec_bd j h
      refine F9_call (F9_small hj hu hv fp fq hne ⟨b1, b2⟩ ⟨b3, b4⟩ fun w2 hu2 hv2 fp2 fq2 hfr2 hsz2 => back0 ?_)
      have m1 : mulI .i64 (2 ^ j) rx = 2 ^ j * rx := by rcases r1 with rfl | rfl <;> exact wrap_i64 (by omega) (by omega)
      have m2 : mulI .i64 (2 ^ j) ry = 2 ^ j * ry := by rcases r2 with rfl | rfl <;> exact wrap_i64 (by omega) (by omega)
      have m3 : IntKind.wrap .i32 (2 ^ j * rx) = 2 ^ j * rx := by rcases r1 with rfl | rfl <;> exact wrap_i32 (by omega) (by omega)
      have m4 : IntKind.wrap .i32 (2 ^ j * ry) = 2 ^ j * ry := by rcases r2 with rfl | rfl <;> exact wrap_i32 (by omega) (by omega)
      have hs2 : (2 : Int) ^ (j + 1) = 2 ^ j * 2 := Int.pow_succ ..
      have m5 : addI .i32 (rotX j rx ry (dec j h).1 (dec j h).2) (2 ^ j * rx) = (dec (j + 1) h).1 := by rw [d1]; exact wrap_i32 (by omega) (by omega)
      have m6 : addI .i32 (rotY j rx ry (dec j h).1 (dec j h).2) (2 ^ j * ry) = (dec (j + 1) h).2 := by rw [d2]; exact wrap_i32 (by omega) (by omega)
      have m7 : mulI .i64 (2 ^ j) 2 = 2 ^ (j + 1) := by rw [hs2]; exact wrap_i64 (by omega) (by omega)
      have hne' : q' ≠ p' := fun h => hne h.symm
      simp only [LoadT_int, hu2, Option.some.injEq, Value.int.injEq, true_and, exists_eq_left']
      rw [m1, m3, m5]
      refine (Store1_iff).2 ⟨rfl, ⟨_, hu2⟩, fp2, ?_⟩
      simp only [LoadT_int, cell_set, hne, hne', hv2, if_false, Option.some.injEq, Value.int.injEq, true_and, exists_eq_left']
      rw [m2, m4, m6]
      refine (Store1_iff).2 ⟨rfl, ⟨_, by simp only [cell_set, hne, if_false]; exact hv2⟩, by simpa using fq2, ?_⟩
      refine ⟨by decide, ?_⟩
      rw [q4, m7]
      refine ⟨⟨?_, by simpa [hsz2] using hsz, by simpa using fp2, by simpa using fq2, j + 1, ?_, rfl, ?_, ?_, rfl⟩, ?_⟩
      · refine ((hfr.trans hfr2 fun b h => .inr ?_).trans (Fr.setCell (S := fun b => b = p'.block ∨ b = q'.block) _ _ _ (.inl rfl)) fun b h => .inr ?_).trans (Fr.setCell (S := fun b => b = p'.block ∨ b = q'.block) _ _ _ (.inr rfl)) fun b h => .inr ?_
        all_goals (rcases h with rfl | rfl <;> omega)
      · omega
      · simp [hne', hu2]
      · simp [hne, hv2]
      · omega
    · have hc := of_decide_eq_false (hcb.trans hc)
      have hj31 : j = N := by
        rcases Nat.lt_or_ge j 31 with h | h
        · have := pow_bd (j := j) (by omega); omega
        · omega
      subst hj31
      simp only [Drw_iff, LoadT_int, World.cell?_drew, hu, hv, Option.some.injEq, Value.int.injEq, true_and, exists_eq_left']
      exact hk _ (hfr.trans (Fr.drew (fun _ => False) _) fun b h => .inl h)

theorem shl32 : ∀ n : Nat, n < 31 → shlI .u32 1 n = 2 ^ n := by decide
theorem shl64 : ∀ n : Nat, n < 62 → shlI .i64 1 n = 2 ^ n := by decide
theorem F4_spec {x y : Int} {k : Value → W} {w : World} (hk : ∀ w', Fr (fun _ => False) w w' → k (.int .i64 (enc 31 x y)) w') : F4 k x y w :=
  F6_call (F6_spec fun w' h => back_int (hk w' h))
theorem back_int2 {k1 k2 : IntKind} {f : Int → Int → W} {n m : Int} {w : World} (h : f n m w) : Back (.tup [(.one (.int k1)), (.one (.int k2))]) f (.returned (.tuple #[.int k1 n, .int k2 m])) w := ⟨(n, m, ()), rfl, h⟩
theorem F5_spec {h : Int} {k : Value → W} {w : World} (h0 : 0 ≤ h) (h1 : h < 4611686018427387904) (hk : ∀ w', Fr (fun _ => False) w w' → k (.tuple #[.int .i32 (dec 31 h).1, .int .i32 (dec 31 h).2]) w') : F5 k h w :=
  F7_call (F7_spec h0 h1 fun w' h => back_int2 (hk w' h))

/-- The law's plain part. -/
theorem law_plain {n : Nat} (hn : n ≤ 31) {a b : Int} (ha : 0 ≤ a ∧ a < 2 ^ n) (hb : 0 ≤ b ∧ b < 2 ^ n) :
    enc 31 a b < 4 ^ n ∧ enc 31 b a < 4 ^ n ∧ 0 ≤ enc 31 b a ∧ dec 31 (enc 31 b a) = (b, a) ∧ (dec 31 (4 ^ n - 1) = (2 ^ n - 1, 0) ∨ dec 31 (4 ^ n - 1) = (0, 2 ^ n - 1)) := by
  obtain ⟨i, hi⟩ := Nat.exists_eq_add_of_le hn
  generalize (31 : Nat) = N at hi
  subst hi
  have hle : (2 : Int) ^ n ≤ 2 ^ (n + i) := by
    have h1 : (2 : Nat) ^ n ≤ 2 ^ (n + i) := Nat.pow_le_pow_right (by decide) (Nat.le_add_right _ _)
    have h2 : ((2 ^ n : Nat) : Int) ≤ ((2 ^ (n + i) : Nat) : Int) := Int.ofNat_le.2 h1
    simpa using h2
  exact ⟨enc_small n i a b ha.1 ha.2 hb.1 hb.2, enc_small n i b a hb.1 hb.2 ha.1 ha.2, (enc_bd _ b a).1,
    dec_enc _ b a hb.1 (Int.lt_of_lt_of_le hb.2 hle) ha.1 (Int.lt_of_lt_of_le ha.2 hle), dec_corner n i⟩

theorem step_s {k : Int} (h0 : 0 ≤ k) (h1 : k < 256) : ∃ n : Nat, mulI .u64 2 (addI .u64 1 (remI (IntKind.wrap .u64 k) 15)) = n ∧ n ≤ 30 := by
  have e1 : IntKind.wrap .u64 k = k := wrap_u64 h0 (by omega)
  have e2 : remI k 15 = k % 15 := remI_eq h0
  have e3 : addI .u64 1 (k % 15) = 1 + k % 15 := addI_u64 (by omega) (by omega)
  have e4 : mulI .u64 2 (1 + k % 15) = 2 * (1 + k % 15) := mulI_u64 (by omega) (by omega)
  rw [e1, e2, e3, e4]
  exact ⟨(2 * (1 + k % 15)).toNat, by omega, by omega⟩

/-- The law. -/
theorem F3_spec {x y k : Int} {kk : Value → W} {w : World} (hx : 0 ≤ x ∧ x < 4294967296) (hy : 0 ≤ y ∧ y < 4294967296) (hk0 : 0 ≤ k ∧ k < 256)
    (hk : ∀ w', Fr (fun _ => False) w w' → kk (.bool true) w') : F3 kk x y k w := by
  obtain ⟨n, hn, hn30⟩ := step_s hk0.1 hk0.2
  have hpn := pow_bd hn30
  have hs1 := shl32 n (by omega)
  have hs0 : (0 : Int) ≤ n := Int.natCast_nonneg n
  have hm : mulI .u64 2 n = ((2 * n : Nat) : Int) := by rw [mulI_u64 (by omega) (by omega)]; omega
  have hs2 : shlI .i64 1 (2 * n) = 4 ^ n := by rw [shl64 _ (by omega), Int.pow_mul]; rfl
  have ea : remI x (2 ^ n) = x % 2 ^ n := remI_eq hx.1
  have eb : remI y (2 ^ n) = y % 2 ^ n := remI_eq hy.1
  have ba : 0 ≤ x % 2 ^ n ∧ x % 2 ^ n < 2 ^ n := ⟨Int.emod_nonneg _ (by omega), Int.emod_lt_of_pos _ hpn.1⟩
  have bb : 0 ≤ y % 2 ^ n ∧ y % 2 ^ n < 2 ^ n := ⟨Int.emod_nonneg _ (by omega), Int.emod_lt_of_pos _ hpn.1⟩
  have wa : IntKind.wrap .i32 (x % 2 ^ n) = x % 2 ^ n := wrap_i32 (by omega) (by omega)
  have wb : IntKind.wrap .i32 (y % 2 ^ n) = y % 2 ^ n := wrap_i32 (by omega) (by omega)
  have hsub : subI .i32 (shlI .i32 1 n) 1 = 2 ^ n - 1 := by
    have : shlI .i32 1 n = 2 ^ n := by
      have : min n IntKind.i32.bits = n := Nat.min_eq_left (by show n ≤ 32; omega)
      unfold shlI; rw [this, Int.one_mul, wrap_i32 (by omega) (by omega)]
    rw [this, subI_i32 (by omega) (by omega)]
  have h4 := pow4 hn30
  have h4p := four_pos n
  have hsub64 : subI .i64 (4 ^ n) 1 = 4 ^ n - 1 := subI_i64 (by omega) (by omega)
  unfold F3
  rw [hn]
  simp only [Req_iff, Bind_iff, Drw_iff, Int.toNat_natCast, hs1, hm, hs2, ea, eb, wa, wb, hsub, hsub64]
  obtain ⟨p1, p2, p3, p4, p5⟩ := law_plain (n := n) (by omega) ba bb
  generalize x % 2 ^ n = a at *
  generalize y % 2 ^ n = b at *
  have hne : ((2 : Int) ^ n) ≠ 0 := by omega
  refine ⟨by decide, hs0, hne, hs0, hne, ?_⟩
  refine F4_call (F4_spec fun w1 f1 => back_int ?_)
  refine ⟨Int.natCast_nonneg _, ?_⟩
  rw [decide_eq_false (by omega)]
  refine F4_call (F4_spec fun w2 f2 => back_int ?_)
  refine ⟨Int.natCast_nonneg _, ?_⟩
  rw [decide_eq_false (by omega)]
  refine F4_call (F4_spec fun w3 f3 => back_int ?_)
  refine F5_call (F5_spec p3 (by omega) fun w4 f4 => back_int2 ?_)
  refine ⟨Int.natCast_nonneg _, ?_⟩
  refine F5_call (F5_spec (by omega) (by omega) fun w5 f5 => back_int2 ?_)
  have fr : Fr (fun _ => False) w w5 := (((((Fr.drew _ w).trans f1 fun _ h => h.elim).trans f2 fun _ h => h.elim).trans f3 fun _ h => h.elim).trans f4 fun _ h => h.elim).trans f5 fun _ h => h.elim
  have fin := hk w5 fr
  rw [p4]
  generalize dec 31 (4 ^ n - 1) = D at p5 ⊢
  simp only [beq_self_eq_true, BIf_true]
  rcases p5 with rfl | rfl
  · refine BIf_intro (fun h => ⟨hs0, BIf_intro (fun _ => fin) fun _ => ?_⟩) fun h => ?_
    · simp only [beq_self_eq_true, BIf_true]
      exact ⟨hs0, by simpa using h ▸ fin⟩
    · simp only [beq_self_eq_true, BIf_true]
      exact ⟨hs0, fin⟩
  · simp only [beq_self_eq_true, BIf_true]
    exact ⟨hs0, fin⟩

end Go.Proofs.Ytancdjhojdfejaa.E
