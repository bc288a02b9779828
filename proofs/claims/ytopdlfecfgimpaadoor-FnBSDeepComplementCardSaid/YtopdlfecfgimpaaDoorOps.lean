/-
  The bitset's larger methods: the last word made clean, SetAll, Copy, Intersection.
-/
import Derived.Test.YtopdlfecfgimpaaDoorFnsB
import Derived.Test.YtopdlfecfgimpaaDoorImpl
namespace Go.Proofs.YtopdlfecfgimpaaDoor.E
open Go
set_option linter.unusedSimpArgs false
set_option linter.unusedVariables false
set_option maxRecDepth 100000

theorem allbits : ∀ r : Nat, r < 64 → 0 < r → 18446744073709551615 / 2 ^ (64 - r) = 2 ^ r - 1 := by decide
theorem wbit_clean {ws : List Nat} {n : Nat} (hl : ws.length = (n + 63) / 64) (hr : n % 64 ≠ 0) (j : Nat) :
    wbit (ws.set (n / 64) (ws.getD (n / 64) 0 &&& (2 ^ (n % 64) - 1))) j = (wbit ws j && decide (j < n)) := by
  rw [wbit_set (by omega)]
  by_cases e : j / 64 = n / 64
  · rw [if_pos e, Nat.testBit_and, Nat.testBit_two_pow_sub_one]
    unfold wbit; rw [e]
    congr 1
    exact decide_eq_decide.2 (by omega)
  · rw [if_neg e]
    rcases Nat.lt_or_ge j n with h | h
    · simp [h]
    · rw [wbit_ge (by omega)]; simp
theorem wbit_all {ws : List Nat} {n : Nat} (hl : ws.length = (n + 63) / 64) (hr : n % 64 = 0) (j : Nat) : wbit ws j = (wbit ws j && decide (j < n)) := by
  rcases Nat.lt_or_ge j n with h | h
  · simp [h]
  · rw [wbit_ge (by omega)]; simp

/-- isLenExactMultiple. -/
theorem F66_spec {b q n : Nat} {ws rest : List Nat} {k : Value → W} {w : World} (h : BW w b q n ws rest) (hn : n < 18446744073709551616) (hk : k (.bool (decide (n % 64 = 0))) w) : F66 k (some ⟨b, 0, none⟩) w := by
  unfold F66
  simp only [NN_mk, LoadT_int, h.c0, Option.some.injEq, Value.int.injEq, true_and, exists_eq_left']
  refine F52_call (F52_spec hn (back_int ?_))
  have e : (((n % 64 : Nat) : Int) == 0) = decide (n % 64 = 0) := by
    generalize n % 64 = z
    cases z <;> rfl
  rw [e]; exact hk
/-- cleanLastWord. -/
theorem F59_spec {b q n : Nat} {ws rest : List Nat} {k : Value → W} {w : World} (h : BW w b q n ws rest) (hn : n < 16777216)
    (hk : ∀ ws' w', BW w' b q n ws' rest → (∀ j, wbit ws' j = (wbit ws j && decide (j < n))) → Fr (fun x => x = b ∨ x = q) w w' → k (.tuple #[]) w') : F59 k (some ⟨b, 0, none⟩) w := by
  unfold F59
  refine F66_call (F66_spec h (by omega) (back_bool ?_))
  refine BIf_intro (fun hc => ?_) (fun hc => ?_)
  · have hr : n % 64 ≠ 0 := by simpa using hc
    refine drw_intro fun w1 f1 z1 => ?_
    have h1 := h.fr f1 id id
    have hl := h.len
    have hi : n / 64 < ws.length := by omega
    have es : subI .i64 ((ws.length : Nat) : Int) 1 = ((n / 64 : Nat) : Int) := by rw [subI_i64 (by omega) (by omega)]; omega
    simp only [NN_mk, LoadT_slice, add_mk, Nat.zero_add, h1.c1, Option.some.injEq, Value.slice.injEq]
    refine ⟨_, _, _, ⟨rfl, rfl, rfl⟩, _, _, _, ⟨rfl, rfl, rfl⟩, ?_⟩
    simp only [NN_mk, Req_iff, es, Int.toNat_natCast]
    refine ⟨⟨by omega, by omega⟩, ?_⟩
    simp only [LoadT_int, add_mk, Nat.zero_add, h1.word hi, h1.c0, Option.some.injEq, Value.int.injEq, true_and, exists_eq_left']
    refine F52_call (F52_spec (by omega) (back_int ?_))
    simp only [Chk1_iff, add_mk, Nat.zero_add, h1.word hi, h1.c1, Req_iff, true_and, Int.toNat_natCast, Store1_iff, oneC_int]
    have e6 : subI .u64 64 ((n % 64 : Nat) : Int) = ((64 - n % 64 : Nat) : Int) := by rw [subI_u64 (by omega) (by omega)]; omega
    have e7 : shrI .u64 18446744073709551615 (64 - n % 64) = ((2 ^ (n % 64) - 1 : Nat) : Int) := by
      have := shr_nat .u64 (x := 18446744073709551615) (j := 64 - n % 64) (by show _ ≤ 64; omega)
      rw [show ((18446744073709551615 : Nat) : Int) = 18446744073709551615 from rfl] at this
      rw [this, allbits _ (by omega) (by omega)]
    have hp : (2 : Nat) ^ (n % 64) - 1 < 2 ^ 64 := by
      have : (2 : Nat) ^ (n % 64) < 2 ^ 64 := Nat.pow_lt_pow_right (by decide) (by omega)
      omega
    rw [e6]
    simp only [Int.toNat_natCast, e7, andI_nat (h1.word_lt _) hp]
    refine ⟨Int.natCast_nonneg _, ⟨by omega, by omega⟩, ⟨_, rfl⟩, h1.row.frozen _, ?_⟩
    have hlt : ws.getD (n / 64) 0 &&& (2 ^ (n % 64) - 1) < 18446744073709551616 := Nat.and_lt_two_pow (n := 64) _ hp
    exact hk _ _ (h1.store hi hlt) (wbit_clean hl hr) ((f1.mono (S' := fun x => x = b ∨ x = q) fun _ h => h.elim).trans (Fr.setCell (S := fun x => x = b ∨ x = q) _ _ _ (.inr rfl)) fun _ h => .inl h)
  · have hr : n % 64 = 0 := by simpa using hc
    exact hk ws w h (wbit_all h.len hr) (Fr.refl _ _)

/-- SetAll. -/
theorem F47_spec {b q n : Nat} {f : Nat → Bool} {k : Value → W} {w : World} (h : BSet w b q n f) (hn : n < 16777216)
    (hk : ∀ w', BSet w' b q n (fun j => decide (j < n)) → Fr (fun x => x = b ∨ x = q) w w' → k (.pointer (some ⟨b, 0, none⟩)) w') : F47 k (some ⟨b, 0, none⟩) w := by
  obtain ⟨⟨ws, rest, hm, hf⟩, hl⟩ := h
  unfold F47 F47_J1
  simp only [Option.isNone_some, Bool.not_false, BIf_true, NN_mk, LoadT_slice, add_mk, Nat.zero_add, hm.c1, Option.some.injEq, Value.slice.injEq]
  refine ⟨_, _, _, ⟨rfl, rfl, rfl⟩, ?_⟩
  simp only [Option.isNone_some, Bool.not_false, BIf_true, NN_mk, LoadT_slice, add_mk, Nat.zero_add, hm.c1, Option.some.injEq, Value.slice.injEq]
  refine ⟨_, _, _, ⟨rfl, rfl, rfl⟩, ?_⟩
  refine F47_L1_rule (fun b' x9 x10 w1 => b' = some ⟨b, 0, none⟩ ∧ x9 = ((ws.length : Nat) : Int) ∧ ∃ (i : Nat) (us' : List Nat), x10 = i ∧ i ≤ ws.length ∧ BW w1 b q n us' rest ∧
      (∀ j, j < i → us'.getD j 0 = 18446744073709551615) ∧ Fr (fun x => x = b ∨ x = q) w w1) (fun _ _ x10 _ => ws.length - x10.toNat) ?_ ⟨rfl, rfl, 0, ws, rfl, Nat.zero_le _, hm, fun j hj => by omega, Fr.refl _ _⟩
  rintro b' x9 x10 w1 ⟨rfl, rfl, i, vs, rfl, hi, h1, hv, f1⟩
  have hlen : vs.length = ws.length := by rw [h1.len, hm.len]
  have hlw := hm.len
  unfold F47_L1
  refine BIf_intro (fun hc => ?_) (fun hc => ?_)
  · have hc := of_decide_eq_true hc
    have hi' : i < vs.length := by omega
    simp only [NN_mk, LoadT_slice, add_mk, Nat.zero_add, h1.c1, Option.some.injEq, Value.slice.injEq]
    refine ⟨_, _, _, ⟨rfl, rfl, rfl⟩, ?_⟩
    simp only [NN_mk, Req_iff, Int.toNat_natCast, add_mk, Nat.zero_add, Store1_iff, oneC_int, true_and]
    refine ⟨⟨by omega, by omega⟩, ⟨_, h1.word hi'⟩, h1.row.frozen _, ?_⟩
    have ei : addI .i64 (i : Int) 1 = ((i + 1 : Nat) : Int) := by rw [addI_i64 (by omega) (by omega)]; omega
    rw [ei]
    refine ⟨⟨i + 1, vs.set i 18446744073709551615, rfl, by omega, h1.store hi' (by decide), fun j hj => ?_, f1.trans (Fr.setCell (S := fun x => x = b ∨ x = q) _ _ _ (.inr rfl)) fun _ h => .inl h⟩, by omega⟩
    by_cases e : j = i
    · subst e; simp [hi']
    · have := hv j (by omega)
      rw [List.getD_eq_getElem?_getD] at this ⊢
      rw [List.getElem?_set_ne (fun h => e h.symm)]; exact this
  · have hc := of_decide_eq_false hc
    refine F59_call (F59_spec h1 hn fun vs' w2 h2 hb f2 => back0 (hk w2 ⟨⟨vs', rest, h2, fun j => ?_⟩, fun j hj => of_decide_eq_true hj⟩ (f1.trans f2 fun _ h => .inl h)))
    rw [hb j]
    by_cases e : j < n
    · have hj : j / 64 < vs.length := by rw [h1.len]; omega
      have := hv (j / 64) (by omega)
      unfold wbit
      rw [this]
      have : (18446744073709551615 : Nat).testBit (j % 64) = true := by
        rw [show (18446744073709551615 : Nat) = 2 ^ 64 - 1 from rfl, Nat.testBit_two_pow_sub_one]; exact decide_eq_true (by omega)
      rw [this]; simp
    · simp [e]

theorem wbit_take {ws : List Nat} {l j : Nat} (h : j / 64 < l) : wbit (ws.take l) j = wbit ws j := by
  unfold wbit
  rw [List.getD_eq_getElem?_getD, List.getElem?_take, if_pos h, List.getD_eq_getElem?_getD]
theorem back_ptr2 {f : Option Addr → Option Addr → W} {p q : Option Addr} {w : World} (h : f p q w) : Back (.tup [(.one .ptr), (.one .ptr)]) f (.returned (.tuple #[.pointer p, .pointer q])) w := ⟨(p, q, ()), rfl, h⟩
theorem F55_spec {a : Addr} {k : Value → W} {w : World} (h : k (.tuple #[]) w) : F55 k (some a) w := h
/-- sortByLength. -/
theorem F60_spec {b qb n c qc m : Nat} {f g : Nat → Bool} {k : Value → W} {w : World} (hb : BSet w b qb n f) (hc : BSet w c qc m g)
    (hk : ∀ w', Fr (fun _ => False) w w' → (n ≤ m → k (.tuple #[.pointer (some ⟨b, 0, none⟩), .pointer (some ⟨c, 0, none⟩)]) w') ∧ (m < n → k (.tuple #[.pointer (some ⟨c, 0, none⟩), .pointer (some ⟨b, 0, none⟩)]) w')) :
    F60 k (some ⟨b, 0, none⟩) (some ⟨c, 0, none⟩) w := by
  obtain ⟨⟨ws, rest, hm, hf⟩, hl⟩ := hb
  obtain ⟨⟨vs, rest', hv, hg⟩, hl'⟩ := hc
  unfold F60
  refine drw_intro fun w1 f1 z1 => ?_
  replace hm := hm.fr f1 id id
  replace hv := hv.fr f1 id id
  simp only [NN_mk, LoadT_int, hv.c0, hm.c0, Option.some.injEq, Value.int.injEq, true_and, exists_eq_left']
  have := hk w1 f1
  refine BIf_intro (fun h => this.1 ?_) (fun h => this.2 ?_)
  · have := of_decide_eq_true h; omega
  · have := of_decide_eq_false h; omega

/-- Words, place by place. -/
theorem getD_set {ws : List Nat} {i j x : Nat} (h : i < ws.length) : (ws.set i x).getD j 0 = if j = i then x else ws.getD j 0 := by
  by_cases e : j = i
  · subst e; simp [h]
  · rw [if_neg e, List.getD_eq_getElem?_getD, List.getElem?_set_ne (fun h => e h.symm), List.getD_eq_getElem?_getD]
theorem getD_lt {ws : List Nat} {j : Nat} (h : ws.length ≤ j) : ws.getD j 0 = 0 := by rw [List.getD_eq_getElem?_getD, List.getElem?_eq_none h]; rfl

/-- Intersection, sorted. -/
theorem F49_main {b qb n c qc m : Nat} {f g : Nat → Bool} {k : Value → W} {w : World} (hb : BSet w b qb n f) (hc : BSet w c qc m g) (hnm : n ≤ m) (hn : n < 1048576)
    (hk : ∀ r qr w', BSet w' r qr n (fun j => f j && g j) → Fr (fun _ => False) w w' → w.heap.size ≤ r → w.heap.size ≤ qr → k (.pointer (some ⟨r, 0, none⟩)) w') :
    (NN (some ⟨b, 0, none⟩) fun a5 =>
     LoadT (.int .u64) a5 fun x6 =>
     CallT Go.Proofs.Tryd.prog 50 [.int .u64 x6] (.s (.one .ptr)) fun p7 =>
     NN (some ⟨b, 0, none⟩) fun a8 =>
     LoadT .slice (a8.add 1) fun s9p s9l s9c =>
     Loop [.ptr, .ptr, .slice, (.int .i64), (.int .i64)] (F49_L1 k) (some ⟨c, 0, none⟩) p7 s9p s9l s9c ((s9l : Nat) : Int) 0) w := by
  obtain ⟨⟨ws, rest, hm, hf⟩, hl⟩ := hb
  obtain ⟨⟨vs, rest', hv, hg⟩, hl'⟩ := hc
  have hlen := hm.len
  have hlen' := hv.len
  simp only [NN_mk, LoadT_int, hm.c0, Option.some.injEq, Value.int.injEq, true_and, exists_eq_left']
  refine F50_call (F50_spec hn fun r qr w1 hr f1 zr zq => back_ptr ?_)
  have hm1 := hm.fr f1 id id
  simp only [NN_mk, LoadT_slice, add_mk, Nat.zero_add, hm1.c1, Option.some.injEq, Value.slice.injEq]
  refine ⟨_, _, _, ⟨rfl, rfl, rfl⟩, ?_⟩
  obtain ⟨⟨us0, rest0, hr0, hr0f⟩, _⟩ := hr
  have hz : ∀ j, wbit us0 j = false := hr0f
  refine F49_L1_rule (fun c' r' sp sl sc x13 x14 w2 => c' = some ⟨c, 0, none⟩ ∧ r' = some ⟨r, 0, none⟩ ∧ sp = some ⟨qb, 0, none⟩ ∧ sl = ws.length ∧ x13 = ((ws.length : Nat) : Int) ∧
      ∃ (i : Nat) (rs : List Nat), x14 = i ∧ i ≤ ws.length ∧ BW w2 r qr n rs rest0 ∧ (∀ j, j < i → rs.getD j 0 = ws.getD j 0 &&& vs.getD j 0) ∧ Fr (fun _ => False) w w2)
    (fun _ _ _ _ _ _ x14 _ => ws.length - x14.toNat) ?_ ⟨rfl, rfl, rfl, rfl, rfl, 0, us0, rfl, Nat.zero_le _, hr0, fun j hj => by omega, f1⟩
  rintro c' r' sp sl sc x13 x14 w2 ⟨rfl, rfl, rfl, rfl, rfl, i, rs, rfl, hi, h2, hrs, f2⟩
  have hrl : rs.length = ws.length := by rw [h2.len, hlen]
  unfold F49_L1
  refine BIf_intro (fun h => ?_) (fun h => ?_)
  · have h := of_decide_eq_true h
    have hi' : i < ws.length := by omega
    have hm2 := hm.fr f2 id id
    simp only [NN_mk, Req_iff, Int.toNat_natCast, add_mk, Nat.zero_add, LoadT_int, hm2.word hi', Option.some.injEq, Value.int.injEq, true_and, exists_eq_left']
    refine ⟨⟨by omega, by omega⟩, ?_⟩
    refine drw_intro fun w3 f3 z3 => ?_
    have hm3 := hm2.fr f3 id id
    have hv3 := (hv.fr f2 id id).fr f3 id id
    have h3 := h2.fr f3 id id
    simp only [NN_mk, LoadT_slice, add_mk, Nat.zero_add, h3.c1, hv3.c1, Option.some.injEq, Value.slice.injEq]
    refine ⟨_, _, _, ⟨rfl, rfl, rfl⟩, _, _, _, ⟨rfl, rfl, rfl⟩, ?_⟩
    have hiv : i < vs.length := by omega
    simp only [NN_mk, Req_iff, Int.toNat_natCast, add_mk, Nat.zero_add, LoadT_int, hv3.word hiv, Option.some.injEq, Value.int.injEq, true_and, exists_eq_left', Store1_iff, oneC_int]
    rw [andI_nat (hm3.word_lt _) (hv3.word_lt _)]
    refine ⟨⟨by omega, by omega⟩, ⟨by omega, by omega⟩, ⟨_, h3.word (by omega)⟩, h3.row.frozen _, ?_⟩
    have ei : addI .i64 (i : Int) 1 = ((i + 1 : Nat) : Int) := by rw [addI_i64 (by omega) (by omega)]; omega
    rw [ei]
    refine ⟨⟨i + 1, rs.set i (ws.getD i 0 &&& vs.getD i 0), rfl, by omega, h3.store (by omega) (Nat.and_lt_two_pow (n := 64) _ (hv3.word_lt _)), fun j hj => ?_, (f2.trans f3 fun _ h => h.elim).trans (Fr.setCell (S := fun x => x = qr) _ _ _ rfl) fun x e => .inr (by have : x = qr := e; have := f1.size; omega)⟩, by omega⟩
    rw [getD_set (by omega)]
    by_cases e : j = i
    · rw [if_pos e, e]
    · rw [if_neg e]; exact hrs j (by omega)
  · have h := of_decide_eq_false h
    have : i = ws.length := by omega
    subst this
    refine hk r qr w2 ⟨⟨rs, rest0, h2, fun j => ?_⟩, fun j hj => ?_⟩ f2 zr zq
    · by_cases e : j / 64 < ws.length
      · unfold wbit
        rw [hrs _ e, Nat.testBit_and, ← hf j, ← hg j]; rfl
      · rw [wbit_ge (by omega), ← hf j, wbit_ge (by omega)]; rfl
    · simp only [Bool.and_eq_true] at hj
      exact hl j hj.1
/-- Intersection. -/
theorem F49_spec {b qb n c qc m : Nat} {f g : Nat → Bool} {k : Value → W} {w : World} (hb : BSet w b qb n f) (hc : BSet w c qc m g) (hn : n < 1048576) (hm : m < 1048576)
    (hk : ∀ r qr w', BSet w' r qr (min n m) (fun j => f j && g j) → Fr (fun _ => False) w w' → w.heap.size ≤ r → w.heap.size ≤ qr → k (.pointer (some ⟨r, 0, none⟩)) w') :
    F49 k (some ⟨b, 0, none⟩) (some ⟨c, 0, none⟩) w := by
  unfold F49
  refine F55_call (F55_spec (back0 ?_))
  refine F55_call (F55_spec (back0 ?_))
  refine F60_call (F60_spec hb hc fun w1 f1 => ⟨fun h => back_ptr2 ?_, fun h => back_ptr2 ?_⟩)
  · refine F49_main (hb.fr f1 id id) (hc.fr f1 id id) h hn fun r qr w2 h2 f2 z1 z2 => hk r qr w2 ?_ (f1.trans f2 fun _ h => h.elim) (Nat.le_trans f1.size z1) (Nat.le_trans f1.size z2)
    rw [Nat.min_eq_left h]; exact h2
  · refine F49_main (hc.fr f1 id id) (hb.fr f1 id id) (Nat.le_of_lt h) hm fun r qr w2 h2 f2 z1 z2 => hk r qr w2 ?_ (f1.trans f2 fun _ h => h.elim) (Nat.le_trans f1.size z1) (Nat.le_trans f1.size z2)
    rw [Nat.min_eq_right (Nat.le_of_lt h)]
    have e : (fun j => g j && f j) = fun j => f j && g j := by funext j; exact Bool.and_comm _ _
    rw [← e]; exact h2
end Go.Proofs.YtopdlfecfgimpaaDoor.E
