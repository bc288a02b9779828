/-
  SymmetricDifference, Difference, SetRange, FlipRange. Printed by this session's own program ops2.py.
-/
import Derived.Test.YtopdlfecfgimpaaFnsF
import Derived.Test.YtopdlfecfgimpaaBV
namespace Go.Proofs.Ytopdlfecfgimpaa.E
open Go
set_option linter.unusedSimpArgs false
set_option linter.unusedVariables false
set_option maxRecDepth 100000

/-- SymmetricDifference, sorted: c is not shorter than b. -/
theorem F72_main {b qb n c qc m : Nat} {f g : Nat → Bool} {k : Value → W} {w : World} (hb : BSet w b qb n f) (hc : BSet w c qc m g) (hnm : n ≤ m) (hm' : m < 1048576)
    (hk : ∀ r qr w', BSet w' r qr m (fun j => f j ^^ g j) → Fr (fun _ => False) w w' → w.heap.size ≤ r → w.heap.size ≤ qr → k (.pointer (some ⟨r, 0, none⟩)) w') :
    (CallT Go.Proofs.Try.prog 94 [.pointer (some ⟨c, 0, none⟩)] (.s (.one .ptr)) fun p5 =>
     NN (some ⟨b, 0, none⟩) fun a6 =>
     LoadT .slice (a6.add 1) fun s7p s7l s7c =>
     Loop [.ptr, .ptr, .slice, (.int .i64), (.int .i64)] (F72_L1 k) (some ⟨c, 0, none⟩) p5 s7p s7l s7c ((s7l : Nat) : Int) 0) w := by
  obtain ⟨⟨ws, rest, hm, hf⟩, hl⟩ := hb
  obtain ⟨⟨vs, rest', hv, hg⟩, hl'⟩ := hc
  have hlen := hm.len
  have hlen' := hv.len
  refine F94_call (F94_spec hv hm' fun r qr rest0 w1 hr0 f1 zr zq => back_ptr ?_)
  have hm1 := hm.fr f1 id id
  simp only [NN_mk, LoadT_slice, add_mk, Nat.zero_add, hm1.c1, Option.some.injEq, Value.slice.injEq]
  refine ⟨_, _, _, ⟨rfl, rfl, rfl⟩, ?_⟩
  refine F72_L1_rule (fun c' r' sp sl sc x13 x14 w2 => c' = some ⟨c, 0, none⟩ ∧ r' = some ⟨r, 0, none⟩ ∧ sp = some ⟨qb, 0, none⟩ ∧ sl = ws.length ∧ x13 = ((ws.length : Nat) : Int) ∧
      ∃ (i : Nat) (rs : List Nat), x14 = i ∧ i ≤ ws.length ∧ BW w2 r qr m rs rest0 ∧ (∀ j, rs.getD j 0 = if j < i then ws.getD j 0 ^^^ vs.getD j 0 else vs.getD j 0) ∧ Fr (fun _ => False) w w2)
    (fun _ _ _ _ _ _ x14 _ => ws.length - x14.toNat) ?_ ⟨rfl, rfl, rfl, rfl, rfl, 0, vs, rfl, Nat.zero_le _, hr0, fun j => by simp, f1⟩
  rintro c' r' sp sl sc x13 x14 w2 ⟨rfl, rfl, rfl, rfl, rfl, i, rs, rfl, hi, h2, hrs, f2⟩
  have hrl : rs.length = vs.length := by rw [h2.len, hlen']
  unfold F72_L1
  refine BIf_intro (fun h => ?_) (fun h => ?_)
  · have h := of_decide_eq_true h
    have hi' : i < ws.length := by omega
    have hm2 := hm.fr f2 id id
    simp only [NN_mk, Req_iff, Int.toNat_natCast, add_mk, Nat.zero_add, LoadT_int, hm2.word hi', Option.some.injEq, Value.int.injEq, true_and, exists_eq_left']
    refine ⟨⟨by omega, by omega⟩, ?_⟩
    refine drw_intro fun w3 f3 z3 => ?_
    have hm3 := hm2.fr f3 id id
    have hv3 := (hv.fr f2 id id).fr f3 id id
    have h3 := h2.fr f3 id id
    simp only [NN_mk, LoadT_slice, add_mk, Nat.zero_add, h3.c1, hv3.c1, Option.some.injEq, Value.slice.injEq]
    refine ⟨_, _, _, ⟨rfl, rfl, rfl⟩, _, _, _, ⟨rfl, rfl, rfl⟩, ?_⟩
    have hiv : i < vs.length := by omega
    simp only [NN_mk, Req_iff, Int.toNat_natCast, add_mk, Nat.zero_add, LoadT_int, hv3.word hiv, Option.some.injEq, Value.int.injEq, true_and, exists_eq_left', Store1_iff, oneC_int]
    rw [xorI_nat (hm3.word_lt _) (hv3.word_lt _)]
    refine ⟨⟨by omega, by omega⟩, ⟨by omega, by omega⟩, ⟨_, h3.word (by omega)⟩, h3.row.frozen _, ?_⟩
    have ei : addI .i64 (i : Int) 1 = ((i + 1 : Nat) : Int) := by rw [addI_i64 (by omega) (by omega)]; omega
    rw [ei]
    refine ⟨⟨i + 1, rs.set i (ws.getD i 0 ^^^ vs.getD i 0), rfl, by omega, h3.store (by omega) (Nat.xor_lt_two_pow (n := 64) (hm3.word_lt _) (hv3.word_lt _)), fun j => ?_, (f2.trans f3 fun _ h => h.elim).trans (Fr.setCell (S := fun x => x = qr) _ _ _ rfl) fun x e => .inr (by have : x = qr := e; have := f1.size; omega)⟩, by omega⟩
    rw [getD_set (by omega)]
    by_cases e : j = i
    · rw [if_pos e, e, if_pos (by omega)]
    · rw [if_neg e, hrs j]
      by_cases e2 : j < i
      · rw [if_pos e2, if_pos (by omega)]
      · rw [if_neg e2, if_neg (by omega)]
  · have h := of_decide_eq_false h
    have : i = ws.length := by omega
    subst this
    refine hk r qr w2 ⟨⟨rs, rest0, h2, fun j => ?_⟩, fun j hj => ?_⟩ f2 zr zq
    · rw [← hf j, ← hg j]
      by_cases e : j / 64 < ws.length
      · unfold wbit
        rw [hrs _, if_pos e, Nat.testBit_xor]
      · rw [wbit_ge (ws := ws) (by omega), Bool.false_xor]
        unfold wbit
        rw [hrs _, if_neg e]
    · cases h1 : f j with
      | true => have := hl j h1; omega
      | false => rw [h1] at hj; exact hl' j (by simpa using hj)
/-- SymmetricDifference. -/
theorem F72_spec {b qb n c qc m : Nat} {f g : Nat → Bool} {k : Value → W} {w : World} (hb : BSet w b qb n f) (hc : BSet w c qc m g) (hn : n < 1048576) (hm : m < 1048576)
    (hk : ∀ r qr w', BSet w' r qr (max n m) (fun j => f j ^^ g j) → Fr (fun _ => False) w w' → w.heap.size ≤ r → w.heap.size ≤ qr → k (.pointer (some ⟨r, 0, none⟩)) w') :
    F72 k (some ⟨b, 0, none⟩) (some ⟨c, 0, none⟩) w := by
  unfold F72
  refine F89_call (F89_spec (back0 ?_))
  refine F89_call (F89_spec (back0 ?_))
  refine F90_call (F90_spec hb hc fun w1 f1 => ⟨fun h => back_ptr2 ?_, fun h => back_ptr2 ?_⟩)
  · refine F72_main (hb.fr f1 id id) (hc.fr f1 id id) h hm fun r qr w2 h2 f2 z1 z2 => hk r qr w2 ?_ (f1.trans f2 fun _ h => h.elim) (Nat.le_trans f1.size z1) (Nat.le_trans f1.size z2)
    rw [Nat.max_eq_right h]; exact h2
  · refine F72_main (hc.fr f1 id id) (hb.fr f1 id id) (Nat.le_of_lt h) hn fun r qr w2 h2 f2 z1 z2 => hk r qr w2 ?_ (f1.trans f2 fun _ h => h.elim) (Nat.le_trans f1.size z1) (Nat.le_trans f1.size z2)
    rw [Nat.max_eq_left (Nat.le_of_lt h)]
    have e : (fun j => g j ^^ f j) = fun j => f j ^^ g j := by funext j; cases f j <;> cases g j <;> rfl
    rw [← e]; exact h2

/-- Difference, the clone made. -/
theorem F73_main {b qb n c qc m r qr l : Nat} {ws rest vs rest' rest0 : List Nat} {f g : Nat → Bool} {k : Value → W} {w0 w : World} (hw : BW w b qb n ws rest) (hv : BW w c qc m vs rest') (hr : BW w r qr n ws rest0) (hl : l = min ws.length vs.length)
    (hf : ∀ j, wbit ws j = f j) (hg : ∀ j, wbit vs j = g j) (hfn : ∀ j, f j = true → j < n) (fr : Fr (fun _ => False) w0 w) (zr : w0.heap.size ≤ r) (zq : w0.heap.size ≤ qr) (hb0 : b < w0.heap.size ∧ qb < w0.heap.size ∧ c < w0.heap.size ∧ qc < w0.heap.size) (hn : n < 1048576)
    (hk : ∀ w', BSet w' r qr n (fun j => f j && !g j) → Fr (fun _ => False) w0 w' → k (.pointer (some ⟨r, 0, none⟩)) w') :
    F73_J1 k (some ⟨b, 0, none⟩) (some ⟨c, 0, none⟩) (some ⟨r, 0, none⟩) l w := by
  unfold F73_J1
  have hlw := hw.len
  have hne := hr.ne
  refine F73_L1_rule (fun b' c' r' l' i' w2 => b' = some ⟨b, 0, none⟩ ∧ c' = some ⟨c, 0, none⟩ ∧ r' = some ⟨r, 0, none⟩ ∧ l' = (l : Int) ∧
      ∃ (i : Nat) (rs : List Nat), i' = i ∧ i ≤ l ∧ BW w2 r qr n rs rest0 ∧ BW w2 b qb n ws rest ∧ BW w2 c qc m vs rest' ∧ (∀ j, rs.getD j 0 = if j < i then ws.getD j 0 &&& (18446744073709551615 ^^^ vs.getD j 0) else ws.getD j 0) ∧ Fr (fun _ => False) w0 w2)
    (fun _ _ _ _ i' _ => l - i'.toNat) ?_ ⟨rfl, rfl, rfl, rfl, 0, ws, rfl, Nat.zero_le _, hr, hw, hv, fun j => by simp, fr⟩
  clear hw hv hr fr
  rintro b' c' r' l' i' w2 ⟨rfl, rfl, rfl, rfl, i, rs, rfl, hi, hr, hw, hv, hrs, fr⟩
  have hrl : rs.length = ws.length := by rw [hr.len, hlw]
  unfold F73_L1
  refine BIf_intro (fun h => ?_) (fun h => ?_)
  · have h := of_decide_eq_true h
    refine drw_intro fun w3 f3 z3 => ?_
    replace hr := hr.fr f3 id id
    replace hw := hw.fr f3 id id
    replace hv := hv.fr f3 id id
    replace fr := fr.trans f3 fun _ h => h.elim
    have hiw : i < ws.length := by omega
    have hiv : i < vs.length := by omega
    simp only [NN_mk, LoadT_slice, LoadT_int, Req_iff, Store1_iff, oneC_int, Int.toNat_natCast, add_mk, Nat.zero_add, hr.c1, hw.c1, hv.c1, hw.word hiw, hv.word hiv, Option.some.injEq, Value.slice.injEq, Value.int.injEq, true_and, exists_eq_left']
    refine ⟨_, _, _, ⟨rfl, rfl, rfl⟩, _, _, _, ⟨rfl, rfl, rfl⟩, ?_⟩
    simp only [NN_mk, LoadT_slice, LoadT_int, Req_iff, Store1_iff, oneC_int, Int.toNat_natCast, add_mk, Nat.zero_add, hr.c1, hw.c1, hv.c1, hw.word hiw, hv.word hiv, Option.some.injEq, Value.slice.injEq, Value.int.injEq, true_and, exists_eq_left']
    refine ⟨⟨by omega, by omega⟩, _, _, _, ⟨rfl, rfl, rfl⟩, ?_⟩
    simp only [NN_mk, LoadT_slice, LoadT_int, Req_iff, Store1_iff, oneC_int, Int.toNat_natCast, add_mk, Nat.zero_add, hr.c1, hw.c1, hv.c1, hw.word hiw, hv.word hiv, Option.some.injEq, Value.slice.injEq, Value.int.injEq, true_and, exists_eq_left']
    rw [andNotI_nat (hw.word_lt _) (hv.word_lt _)]
    refine ⟨⟨by omega, by omega⟩, ⟨by omega, by omega⟩, ⟨_, hr.word (by omega)⟩, hr.row.frozen _, ?_⟩
    have ei : addI .i64 (i : Int) 1 = ((i + 1 : Nat) : Int) := by rw [addI_i64 (by omega) (by omega)]; omega
    rw [ei]
    have fs : Fr (fun x => x = qr) w3 (w3.setCell ⟨qr, i, none⟩ (.int .u64 (ws.getD i 0 &&& (18446744073709551615 ^^^ vs.getD i 0) : Nat))) := Fr.setCell _ _ _ rfl
    refine ⟨⟨i + 1, rs.set i (ws.getD i 0 &&& (18446744073709551615 ^^^ vs.getD i 0)), rfl, by omega, hr.store (by omega) (Nat.lt_of_le_of_lt Nat.and_le_left (hw.word_lt _)), hw.fr fs (fun (e : b = qr) => by omega) (fun (e : qb = qr) => by omega), hv.fr fs (fun (e : c = qr) => by omega) (fun (e : qc = qr) => by omega), fun j => ?_, fr.trans fs fun x e => .inr (by have : x = qr := e; omega)⟩, by omega⟩
    rw [getD_set (by omega)]
    by_cases e : j = i
    · rw [if_pos e, e, if_pos (by omega)]
    · rw [if_neg e, hrs j]
      by_cases e2 : j < i
      · rw [if_pos e2, if_pos (by omega)]
      · rw [if_neg e2, if_neg (by omega)]
  · have h := of_decide_eq_false h
    have : i = l := by omega
    subst this
    refine hk w2 ⟨⟨rs, rest0, hr, fun j => ?_⟩, fun j hj => hfn j (Bool.and_eq_true _ _ ▸ hj).1⟩ fr
    rw [← hf j, ← hg j]
    unfold wbit
    rw [hrs]
    by_cases e : j / 64 < i
    · rw [if_pos e, Nat.testBit_and, Nat.testBit_xor, show (18446744073709551615 : Nat) = 2 ^ 64 - 1 from rfl, Nat.testBit_two_pow_sub_one, decide_eq_true (by omega)]
      simp
    · rw [if_neg e]
      rcases Nat.lt_or_ge (j / 64) vs.length with h1 | h1
      · have h2 : ws.getD (j / 64) 0 = 0 := getD_lt (by omega)
        rw [h2]; simp
      · have h2 : vs.getD (j / 64) 0 = 0 := getD_lt h1
        rw [h2]; simp
/-- Difference. -/
theorem F73_spec {b qb n c qc m : Nat} {f g : Nat → Bool} {k : Value → W} {w : World} (hb : BSet w b qb n f) (hc : BSet w c qc m g) (hn : n < 1048576) (hm : m < 1048576)
    (hk : ∀ r qr w', BSet w' r qr n (fun j => f j && !g j) → Fr (fun _ => False) w w' → w.heap.size ≤ r → w.heap.size ≤ qr → k (.pointer (some ⟨r, 0, none⟩)) w') :
    F73 k (some ⟨b, 0, none⟩) (some ⟨c, 0, none⟩) w := by
  have lb := hb.lt
  have lc := hc.lt
  obtain ⟨⟨ws, rest, hw, hf⟩, hl⟩ := hb
  obtain ⟨⟨vs, rest', hv, hg⟩, hl'⟩ := hc
  unfold F73
  refine F89_call (F89_spec (back0 ?_))
  refine F89_call (F89_spec (back0 ?_))
  refine F94_call (F94_spec hw hn fun r qr rest0 w1 hr f1 zr zq => back_ptr ?_)
  have hw1 := hw.fr f1 id id
  have hv1 := hv.fr f1 id id
  refine F95_call (F95_spec hv1 (by omega) (back_int ?_))
  refine F95_call (F95_spec hw1 (by omega) (back_int ?_))
  refine BIf_intro (fun h => ?_) (fun h => ?_)
  · have h := of_decide_eq_true h
    refine F95_call (F95_spec hw1 (by omega) (back_int ?_))
    exact F73_main hw1 hv1 hr (by omega) hf hg hl f1 zr zq ⟨lb.1, lb.2, lc.1, lc.2⟩ hn fun w2 h2 f2 => hk r qr w2 h2 f2 zr zq
  · have h := of_decide_eq_false h
    exact F73_main hw1 hv1 hr (by omega) hf hg hl f1 zr zq ⟨lb.1, lb.2, lc.1, lc.2⟩ hn fun w2 h2 f2 => hk r qr w2 h2 f2 zr zq

/-! ## Ranges -/
/-- Is j from a on, below b? -/
def rg (a b j : Nat) : Bool := decide (a ≤ j) && decide (j < b)
theorem rg_iff {a b j : Nat} : rg a b j = true ↔ a ≤ j ∧ j < b := by simp [rg]
/-- The word's bits from r on. -/
def hiM (r : Nat) : Nat := 18446744073709551615 * 2 ^ r % 18446744073709551616
theorem hiM_lt (r : Nat) : hiM r < 18446744073709551616 := Nat.mod_lt _ (by decide)
theorem hiM_bit {r i : Nat} (hi : i < 64) : (hiM r).testBit i = decide (r ≤ i) := by
  unfold hiM
  rw [show (18446744073709551616 : Nat) = 2 ^ 64 from rfl, Nat.testBit_mod_two_pow, Nat.mul_comm, Nat.testBit_two_pow_mul, show (18446744073709551615 : Nat) = 2 ^ 64 - 1 from rfl, Nat.testBit_two_pow_sub_one, decide_eq_true hi, Bool.true_and]
  by_cases h : r ≤ i
  · rw [decide_eq_true h, decide_eq_true (by omega)]; rfl
  · rw [decide_eq_false h]; rfl
theorem shl_ones {r : Nat} (hr : r < 64) : shlI .u64 18446744073709551615 r = ((hiM r : Nat) : Int) := by
  unfold shlI hiM
  rw [Nat.min_eq_left (by show _ ≤ 64; omega), show ((2 : Int) ^ r) = ((2 ^ r : Nat) : Int) by simp, show (18446744073709551615 : Int) = ((18446744073709551615 : Nat) : Int) from rfl, ← Int.natCast_mul]
  simp only [IntKind.wrap, IntKind.bits, IntKind.signed]
  simp
theorem loM_bit {c i : Nat} : (18446744073709551615 / 2 ^ c).testBit i = decide (i + c < 64) := by
  rw [Nat.testBit_div_two_pow, show (18446744073709551615 : Nat) = 2 ^ 64 - 1 from rfl, Nat.testBit_two_pow_sub_one]
theorem shr_ones {c : Nat} (hc : c ≤ 64) : shrI .u64 18446744073709551615 c = ((18446744073709551615 / 2 ^ c : Nat) : Int) := shr_nat .u64 (x := 18446744073709551615) hc
theorem loM_lt (c : Nat) : 18446744073709551615 / 2 ^ c < 18446744073709551616 := Nat.lt_of_le_of_lt (Nat.div_le_self _ _) (by decide)
theorem neg_end {e : Nat} (h0 : 0 < e) (he : e < 1048577) : subI .u64 0 (e : Int) = ((18446744073709551616 - e : Nat) : Int) := by
  have h : IntKind.wrap .u64 (0 - (e : Int)) = ((18446744073709551616 - e : Nat) : Int) := by
    simp only [IntKind.wrap, IntKind.bits, IntKind.signed]; simp; omega
  exact h
theorem neg_mod {e : Nat} (he : e < 1048577) : (18446744073709551616 - e) % 64 = (64 - e % 64) % 64 := by omega
theorem last_mask {e i : Nat} (h0 : 0 < e) (hi : i < 64) : (18446744073709551615 / 2 ^ ((64 - e % 64) % 64)).testBit i = decide (i ≤ (e - 1) % 64) := by
  rw [loM_bit]; apply decide_eq_decide.2; omega
theorem BW.frz {w : World} {b q n : Nat} {ws rest : List Nat} (h : BW w b q n ws rest) (i : Nat) : w.frozen? ⟨q, i, none⟩ = false := h.row.frozen i
/-- A word is turned. -/
theorem BW.put {w : World} {b q n i x : Nat} {ws rest : List Nat} {k : W} (h : BW w b q n ws rest) (hi : i < ws.length) (hx : x < 18446744073709551616)
    (hk : ∀ w', BW w' b q n (ws.set i x) rest → Fr (fun x => x = b ∨ x = q) w w' → k w') : Store1 ⟨q, i, none⟩ (.int .u64 (x : Nat)) k w :=
  Store1_iff.2 ⟨rfl, ⟨_, h.word hi⟩, h.frz i, hk _ (h.store hi hx) (Fr.setCell _ _ _ (.inr rfl))⟩
theorem BW.ldw {w : World} {b q n i : Nat} {ws rest : List Nat} {f : Int → W} (h : BW w b q n ws rest) (hi : i < ws.length) (hk : f (ws.getD i 0 : Nat) w) : LoadT (.int .u64) ⟨q, i, none⟩ f w :=
  LoadT_int.2 ⟨_, h.word hi, hk⟩
theorem BW.lds {w : World} {b q n : Nat} {ws rest : List Nat} {f : Option Addr → Nat → Nat → W} (h : BW w b q n ws rest) (hk : f (some ⟨q, 0, none⟩) ws.length (ws.length + rest.length) w) : LoadT .slice ⟨b, 1, none⟩ f w :=
  LoadT_slice.2 ⟨_, _, _, h.c1, hk⟩
theorem F70_J1_spec {b q n s e : Nat} {ws rest : List Nat} {k : Value → W} {w : World} (h : BW w b q n ws rest) (hse : s < e) (hen : e ≤ n) (hn : n < 1048576)
    (hk : ∀ ws' w', BW w' b q n ws' rest → (∀ j, wbit ws' j = (wbit ws j || rg s e j)) → Fr (fun x => x = b ∨ x = q) w w' → k (.pointer (some ⟨b, 0, none⟩)) w') :
    F70_J1 k (some ⟨b, 0, none⟩) s e w := by
  have hlw := h.len
  unfold F70_J1
  refine bind_intro ?_
  have e1 : subI .u64 (e : Int) 1 = ((e - 1 : Nat) : Int) := by rw [subI_u64 (by omega) (by omega)]; omega
  rw [e1, neg_end (by omega) (by omega), shr6, shr6]
  refine F86_call (F86_spec (by omega) (back_int ?_))
  refine ⟨by omega, bind_intro ?_⟩
  simp only [Int.toNat_natCast]
  rw [shl_ones (Nat.mod_lt _ (by decide))]
  refine F86_call (F86_spec (by omega) (back_int ?_))
  refine ⟨by omega, bind_intro ?_⟩
  simp only [Int.toNat_natCast]
  rw [neg_mod (by omega), shr_ones (by omega)]
  have hlm := fun i hi => last_mask (e := e) (i := i) (by omega) hi
  have hlt := loM_lt ((64 - e % 64) % 64)
  generalize 18446744073709551615 / 2 ^ ((64 - e % 64) % 64) = lm at *
  have hfm := fun i hi => hiM_bit (r := s % 64) (i := i) hi
  have hft := hiM_lt (s % 64)
  generalize hiM (s % 64) = fm at *
  have hs : s / 64 < ws.length := by omega
  have he : (e - 1) / 64 < ws.length := by omega
  refine BIf_intro (fun hc => ?_) (fun hc => ?_)
  · have hc : s / 64 = (e - 1) / 64 := by
      have : ((s / 64 : Nat) : Int) = (((e - 1) / 64 : Nat) : Int) := by simpa using hc
      omega
    simp only [NN_mk, add_mk, Nat.zero_add]
    refine h.lds ⟨⟨by omega, by omega⟩, ?_⟩
    simp only [NN_mk, add_mk, Nat.zero_add, Int.toNat_natCast]
    refine h.ldw hs ⟨⟨by omega, by omega⟩, ?_⟩
    rw [andI_nat hft hlt, orI_nat (h.word_lt _) (Nat.and_lt_two_pow (n := 64) _ hlt)]
    refine h.put hs (Nat.or_lt_two_pow (n := 64) (h.word_lt _) (Nat.and_lt_two_pow (n := 64) _ hlt)) fun w' h' f' => hk _ w' h' (fun j => ?_) f'
    rw [wbit_set hs]
    by_cases ej : j / 64 = s / 64
    · rw [if_pos ej, Nat.testBit_or, Nat.testBit_and, hfm _ (by omega), hlm _ (by omega)]
      unfold wbit
      rw [ej]
      congr 1
      rw [Bool.eq_iff_iff, rg_iff]
      simp only [Bool.and_eq_true, decide_eq_true_eq]
      omega
    · rw [if_neg ej]
      have : rg s e j = false := by
        cases hr : rg s e j with
        | false => rfl
        | true => rw [rg_iff] at hr; omega
      rw [this, Bool.or_false]
  · have hc : s / 64 < (e - 1) / 64 := by
      have : ¬ ((s / 64 : Nat) : Int) = (((e - 1) / 64 : Nat) : Int) := by simpa using hc
      omega
    simp only [NN_mk, add_mk, Nat.zero_add]
    refine h.lds ⟨⟨by omega, by omega⟩, ?_⟩
    simp only [NN_mk, add_mk, Nat.zero_add, Int.toNat_natCast]
    refine h.ldw hs ⟨⟨by omega, by omega⟩, ?_⟩
    rw [orI_nat (h.word_lt _) hft]
    refine h.put hs (Nat.or_lt_two_pow (n := 64) (h.word_lt _) hft) fun w1 h1 f1 => bind_intro ?_
    have ei : addI .u64 ((s / 64 : Nat) : Int) 1 = ((s / 64 + 1 : Nat) : Int) := addI_nat (y := 1) (by omega)
    rw [ei]
    refine F70_L1_rule (fun b' ew lm' i' w2 => b' = some ⟨b, 0, none⟩ ∧ ew = (((e - 1) / 64 : Nat) : Int) ∧ lm' = (lm : Int) ∧ ∃ (i : Nat) (rs : List Nat), i' = i ∧ s / 64 < i ∧ i ≤ (e - 1) / 64 ∧ BW w2 b q n rs rest ∧
        (∀ j, wbit rs j = (wbit ws j || rg s (64 * i) j)) ∧ Fr (fun x => x = b ∨ x = q) w w2) (fun _ _ _ i' _ => (e - 1) / 64 - i'.toNat) ?_
      ⟨rfl, rfl, rfl, s / 64 + 1, _, rfl, by omega, by omega, h1, fun j => ?_, f1⟩
    · clear h1 f1
      rintro b' ew lm' i' w2 ⟨rfl, rfl, rfl, i, rs, rfl, hi1, hi2, h2, hrs, f2⟩
      have hrl : rs.length = ws.length := by rw [h2.len, hlw]
      unfold F70_L1
      refine BIf_intro (fun hd => ?_) (fun hd => ?_)
      · have hd := of_decide_eq_true hd
        have hi : i < rs.length := by omega
        simp only [NN_mk, add_mk, Nat.zero_add]
        refine h2.lds ?_
        simp only [NN_mk, add_mk, Nat.zero_add, Int.toNat_natCast]
        refine ⟨⟨by omega, by omega⟩, h2.put (x := 18446744073709551615) hi (by decide) fun w3 h3 f3 => ?_⟩
        have ei : addI .u64 (i : Int) 1 = ((i + 1 : Nat) : Int) := addI_nat (y := 1) (by omega)
        rw [ei]
        refine ⟨⟨(by trivial), (by trivial), (by trivial), i + 1, _, rfl, by omega, by omega, h3, fun j => ?_, f2.trans f3 fun _ h => .inl h⟩, by omega⟩
        rw [wbit_set hi]
        by_cases ej : j / 64 = i
        · rw [if_pos ej, show (18446744073709551615 : Nat) = 2 ^ 64 - 1 from rfl, Nat.testBit_two_pow_sub_one, decide_eq_true (by omega), rg_iff.2 ⟨by omega, by omega⟩, Bool.or_true]
        · rw [if_neg ej, hrs j]
          congr 1
          rw [Bool.eq_iff_iff, rg_iff, rg_iff]; omega
      · have hd := of_decide_eq_false hd
        have : i = (e - 1) / 64 := by omega
        subst this
        have hi : (e - 1) / 64 < rs.length := by omega
        simp only [NN_mk, add_mk, Nat.zero_add]
        refine h2.lds ?_
        simp only [NN_mk, add_mk, Nat.zero_add, Int.toNat_natCast]
        refine ⟨⟨by omega, by omega⟩, h2.ldw hi ⟨⟨by omega, by omega⟩, ?_⟩⟩
        rw [orI_nat (h2.word_lt _) hlt]
        refine h2.put hi (Nat.or_lt_two_pow (n := 64) (h2.word_lt _) hlt) fun w3 h3 f3 => hk _ w3 h3 (fun j => ?_) (f2.trans f3 fun _ h => .inl h)
        rw [wbit_set hi]
        by_cases ej : j / 64 = (e - 1) / 64
        · rw [if_pos ej, Nat.testBit_or, hlm _ (by omega), ← ej]
          have : (rs.getD (j / 64) 0).testBit (j % 64) = wbit rs j := rfl
          rw [this, hrs j, Bool.or_assoc]
          congr 1
          rw [Bool.eq_iff_iff, Bool.or_eq_true, rg_iff, rg_iff, decide_eq_true_iff]
          omega
        · rw [if_neg ej, hrs j]
          congr 1
          rw [Bool.eq_iff_iff, rg_iff, rg_iff]; omega
    · rw [wbit_set hs]
      by_cases ej : j / 64 = s / 64
      · rw [if_pos ej, Nat.testBit_or, hfm _ (by omega)]
        unfold wbit
        rw [ej]
        congr 1
        rw [Bool.eq_iff_iff, rg_iff, decide_eq_true_iff]
        omega
      · rw [if_neg ej]
        have : rg s (64 * (s / 64 + 1)) j = false := by
          cases hr : rg s (64 * (s / 64 + 1)) j with
          | false => rfl
          | true => rw [rg_iff] at hr; omega
        rw [this, Bool.or_false]
theorem F71_J1_spec {b q n s e : Nat} {ws rest : List Nat} {k : Value → W} {w : World} (h : BW w b q n ws rest) (hse : s < e) (hen : e ≤ n) (hn : n < 1048576)
    (hk : ∀ ws' w', BW w' b q n ws' rest → (∀ j, wbit ws' j = (wbit ws j ^^ rg s e j)) → Fr (fun x => x = b ∨ x = q) w w' → k (.pointer (some ⟨b, 0, none⟩)) w') :
    F71_J1 k (some ⟨b, 0, none⟩) s e w := by
  have hlw := h.len
  have hcap := h.cap
  unfold F71_J1
  rw [shr6, shr6, wrap_i64 (by omega) (by omega), wrap_i64 (by omega) (by omega)]
  refine bind_intro (bind_intro (drw_intro fun w0 f0 z0 => ?_))
  replace h := h.fr f0 id id
  have hs : s / 64 < ws.length := by omega
  simp only [NN_mk, add_mk, Nat.zero_add]
  refine h.lds ⟨⟨by omega, by omega⟩, ?_⟩
  simp only [NN_mk, add_mk, Nat.zero_add, Int.toNat_natCast]
  refine h.ldw hs ?_
  refine F86_call (F86_spec (by omega) (back_int ?_))
  refine Chk1_iff.2 ⟨h.word hs, Chk1_iff.2 ⟨h.c1, ?_⟩⟩
  refine ⟨by omega, ⟨⟨by omega, by omega⟩, ?_⟩⟩
  simp only [Int.toNat_natCast]
  rw [shl_ones (Nat.mod_lt _ (by decide)), show (IntKind.max .u64 : Int) = ((18446744073709551615 : Nat) : Int) from rfl, xorI_nat (by decide) (hiM_lt _), xorI_nat (h.word_lt _) (Nat.xor_lt_two_pow (n := 64) (by decide) (hiM_lt _))]
  refine h.put hs (Nat.xor_lt_two_pow (n := 64) (h.word_lt _) (Nat.xor_lt_two_pow (n := 64) (by decide) (hiM_lt _))) fun w1 h1 f1 => h1.lds ?_
  rw [List.length_set]
  refine ⟨⟨by omega, by omega⟩, ⟨⟨by omega, by omega⟩, ?_⟩⟩
  have fr := (Fr.mono f0 (S' := fun x => x = b ∨ x = q) fun _ h => h.elim).trans f1 fun _ h => .inl h
  refine F71_L1_rule (fun b' e' sw ew x23 x24 w2 => b' = some ⟨b, 0, none⟩ ∧ e' = (e : Int) ∧ sw = ((s / 64 : Nat) : Int) ∧ ew = ((e / 64 : Nat) : Int) ∧ x23 = ((e / 64 - s / 64 : Nat) : Int) ∧
      ∃ (i : Nat) (rs : List Nat), x24 = i ∧ i ≤ e / 64 - s / 64 ∧ BW w2 b q n rs rest ∧
        (∀ j, wbit rs j = (wbit ws j ^^ (rg (64 * (s / 64)) s j ^^ rg (64 * (s / 64)) (64 * (s / 64 + i)) j))) ∧ Fr (fun x => x = b ∨ x = q) w w2) (fun _ _ _ _ _ x24 _ => e / 64 - s / 64 - x24.toNat) ?_
    ⟨rfl, rfl, rfl, rfl, rfl, 0, _, rfl, by omega, h1, fun j => ?_, fr⟩
  · clear h1 f1 f0 fr h
    rintro b' e' sw ew x23 x24 w2 ⟨rfl, rfl, rfl, rfl, rfl, i, rs, rfl, hi, h2, hrs, f2⟩
    have hrl : rs.length = ws.length := by rw [h2.len, hlw]
    unfold F71_L1
    refine BIf_intro (fun hd => ?_) (fun hd => ?_)
    · have hd := of_decide_eq_true hd
      have hi' : s / 64 + i < rs.length := by omega
      refine drw_intro fun w3 f3 z3 => ?_
      replace h2 := h2.fr f3 id id
      have ea : addI .i64 ((s / 64 : Nat) : Int) (i : Int) = ((s / 64 + i : Nat) : Int) := by rw [addI_i64 (by omega) (by omega)]; omega
      have ei : addI .i64 (i : Int) 1 = ((i + 1 : Nat) : Int) := by rw [addI_i64 (by omega) (by omega)]; omega
      rw [ea, ei]
      simp only [NN_mk, add_mk, Nat.zero_add]
      refine h2.lds (h2.lds ?_)
      simp only [NN_mk, add_mk, Nat.zero_add, Int.toNat_natCast]
      refine ⟨⟨by omega, by omega⟩, h2.ldw hi' ⟨⟨by omega, by omega⟩, ?_⟩⟩
      rw [show (IntKind.max .u64 : Int) = ((18446744073709551615 : Nat) : Int) from rfl, xorI_nat (by decide) (h2.word_lt _)]
      refine h2.put hi' (Nat.xor_lt_two_pow (n := 64) (by decide) (h2.word_lt _)) fun w4 h4 f4 => ?_
      refine ⟨⟨(by trivial), (by trivial), (by trivial), (by trivial), (by trivial), i + 1, _, rfl, by omega, h4, fun j => ?_, (f2.trans f3 fun _ h => h.elim).trans f4 fun _ h => .inl h⟩, by omega⟩
      rw [wbit_set hi']
      by_cases ej : j / 64 = s / 64 + i
      · rw [if_pos ej, Nat.testBit_xor, show (18446744073709551615 : Nat) = 2 ^ 64 - 1 from rfl, Nat.testBit_two_pow_sub_one, decide_eq_true (by omega), ← ej]
        have : (rs.getD (j / 64) 0).testBit (j % 64) = wbit rs j := rfl
        have e1 : rg (64 * (s / 64)) (64 * (s / 64 + (i + 1))) j = true := rg_iff.2 ⟨by omega, by omega⟩
        rw [this, hrs j, e1]
        have : rg (64 * (s / 64)) (64 * (s / 64 + i)) j = false := by
          cases hr : rg (64 * (s / 64)) (64 * (s / 64 + i)) j with
          | false => rfl
          | true => rw [rg_iff] at hr; omega
        rw [this]
        cases wbit ws j <;> cases rg (64 * (s / 64)) s j <;> rfl
      · rw [if_neg ej, hrs j]
        congr 2
        rw [Bool.eq_iff_iff, rg_iff, rg_iff]; omega
    · have hd := of_decide_eq_false hd
      have : i = e / 64 - s / 64 := by omega
      subst this
      rw [show 64 * (s / 64 + (e / 64 - s / 64)) = 64 * (e / 64) by omega] at hrs
      rw [neg_end (by omega) (by omega)]
      refine F86_call (F86_spec (by omega) (back_int ?_))
      rw [neg_mod (by omega)]
      refine BIf_intro (fun hz => ?_) (fun hz => ?_)
      · have hz : (64 - e % 64) % 64 ≠ 0 := by
          intro e0
          rw [e0] at hz
          simp at hz
        have he : e / 64 < rs.length := by omega
        refine drw_intro fun w3 f3 z3 => ?_
        replace h2 := h2.fr f3 id id
        simp only [NN_mk, add_mk, Nat.zero_add]
        refine h2.lds ?_
        simp only [NN_mk, add_mk, Nat.zero_add, Int.toNat_natCast]
        refine ⟨⟨by omega, by omega⟩, h2.ldw he ?_⟩
        refine F86_call (F86_spec (by omega) (back_int ?_))
        refine Chk1_iff.2 ⟨h2.word he, Chk1_iff.2 ⟨h2.c1, ?_⟩⟩
        refine ⟨by omega, ⟨⟨by omega, by omega⟩, ?_⟩⟩
        simp only [Int.toNat_natCast]
        rw [Nat.mod_mod, shr_ones (by omega), xorI_nat (h2.word_lt _) (loM_lt _)]
        refine h2.put he (Nat.xor_lt_two_pow (n := 64) (h2.word_lt _) (loM_lt _)) fun w4 h4 f4 => hk _ w4 h4 (fun j => ?_) ((f2.trans f3 fun _ h => h.elim).trans f4 fun _ h => .inl h)
        rw [wbit_set he]
        by_cases ej : j / 64 = e / 64
        · rw [if_pos ej, Nat.testBit_xor, last_mask (by omega) (by omega), ← ej]
          have : (rs.getD (j / 64) 0).testBit (j % 64) = wbit rs j := rfl
          rw [this, hrs j, Bool.xor_assoc]
          congr 1
          unfold rg
          rw [Bool.eq_iff_iff]
          by_cases c1 : 64 * (s / 64) ≤ j <;> by_cases c2 : j < s <;> by_cases c3 : j < 64 * (j / 64) <;> by_cases c4 : s ≤ j <;> by_cases c5 : j < e <;> by_cases c6 : j % 64 ≤ (e - 1) % 64 <;> simp only [c1, c2, c3, c4, c5, c6, decide_true, decide_false, Bool.true_and, Bool.false_and, Bool.and_true, Bool.and_false, Bool.xor_true, Bool.xor_false, Bool.true_xor, Bool.false_xor, Bool.not_true, Bool.not_false] <;> simp <;> omega
        · rw [if_neg ej, hrs j]
          congr 1
          unfold rg
          rw [Bool.eq_iff_iff]
          by_cases c1 : 64 * (s / 64) ≤ j <;> by_cases c2 : j < s <;> by_cases c3 : j < 64 * (e / 64) <;> by_cases c4 : s ≤ j <;> by_cases c5 : j < e <;> simp only [c1, c2, c3, c4, c5, decide_true, decide_false, Bool.true_and, Bool.false_and, Bool.and_true, Bool.and_false, Bool.xor_true, Bool.xor_false, Bool.true_xor, Bool.false_xor, Bool.not_true, Bool.not_false] <;> simp <;> omega
      · have hz : e % 64 = 0 := by
          have : (((64 - e % 64) % 64 : Nat) : Int) = 0 := by simpa using hz
          omega
        refine hk _ w2 h2 (fun j => ?_) f2
        rw [hrs j, show 64 * (e / 64) = e by omega]
        congr 1
        unfold rg
        rw [Bool.eq_iff_iff]
        by_cases c1 : 64 * (s / 64) ≤ j <;> by_cases c2 : j < s <;> by_cases c4 : s ≤ j <;> by_cases c5 : j < e <;> simp only [c1, c2, c4, c5, decide_true, decide_false, Bool.true_and, Bool.false_and, Bool.and_true, Bool.and_false, Bool.xor_true, Bool.xor_false, Bool.true_xor, Bool.false_xor, Bool.not_true, Bool.not_false] <;> simp <;> omega
  · rw [wbit_set hs]
    have e0 : rg (64 * (s / 64)) (64 * (s / 64 + 0)) j = false := by
      cases hr : rg (64 * (s / 64)) (64 * (s / 64 + 0)) j with
      | false => rfl
      | true => rw [rg_iff] at hr; omega
    rw [e0, Bool.xor_false]
    by_cases ej : j / 64 = s / 64
    · rw [if_pos ej, Nat.testBit_xor, Nat.testBit_xor, hiM_bit (by omega), show (18446744073709551615 : Nat) = 2 ^ 64 - 1 from rfl, Nat.testBit_two_pow_sub_one, decide_eq_true (by omega : j % 64 < 64)]
      unfold wbit
      rw [ej]
      congr 1
      rw [Bool.eq_iff_iff, rg_iff, Bool.true_xor, Bool.not_eq_true', decide_eq_false_iff_not]
      omega
    · rw [if_neg ej]
      have : rg (64 * (s / 64)) s j = false := by
        cases hr : rg (64 * (s / 64)) s j with
        | false => rfl
        | true => rw [rg_iff] at hr; omega
      rw [this, Bool.xor_false]

/-- SetRange. -/
theorem F70_spec {b q n s e : Nat} {f : Nat → Bool} {k : Value → W} {w : World} (h : BSet w b q n f) (hse : s < e) (he : e < 524288) (hn : n < 524288)
    (hk : ∀ q' w', BSet w' b q' (max n e) (fun j => f j || rg s e j) → Fr (fun x => x = b ∨ x = q) w w' → (q' = q ∨ w.heap.size ≤ q') → k (.pointer (some ⟨b, 0, none⟩)) w') :
    F70 k (some ⟨b, 0, none⟩) s e w := by
  obtain ⟨⟨ws, rest, hm, hf⟩, hl⟩ := h
  unfold F70
  rw [decide_eq_false (by omega)]
  simp only [BIf_false, NN_mk]
  refine LoadT_int.2 ⟨_, hm.c0, ?_⟩
  have e1 : subI .u64 (e : Int) 1 = ((e - 1 : Nat) : Int) := by rw [subI_u64 (by omega) (by omega)]; omega
  rw [e1]
  have hlt : ∀ j, (f j || rg s e j) = true → j < max n e := fun j hj => by
    cases h1 : f j with
    | true => have := hl j h1; omega
    | false =>
      rw [h1] at hj
      have := rg_iff.1 (show rg s e j = true by simpa using hj)
      omega
  refine BIf_intro (fun hc => ?_) (fun hc => ?_)
  · have hc := of_decide_eq_true hc
    refine F87_call (F87_spec hm (by omega) (by omega) fun q' rest' w1 h1 f1 hq => back0 ?_)
    rw [show e - 1 + 1 = e by omega] at h1
    refine F70_J1_spec h1 hse (Nat.le_refl _) (by omega) fun ws' w2 h2 hb f2 => hk q' w2 ⟨⟨ws', rest', ?_, fun j => ?_⟩, hlt⟩ (f1.trans f2 ?_) hq
    · rw [show max n e = e by omega]; exact h2
    · rw [hb j, wbit_zeros, hf j]
    · rintro x (rfl | rfl)
      · exact .inl (.inl rfl)
      · rcases hq with rfl | hq
        · exact .inl (.inr rfl)
        · exact .inr hq
  · have hc := of_decide_eq_false hc
    refine F70_J1_spec hm hse (by omega) (by omega) fun ws' w2 h2 hb f2 => hk q w2 ⟨⟨ws', rest, ?_, fun j => ?_⟩, hlt⟩ f2 (.inl rfl)
    · rw [show max n e = n by omega]; exact h2
    · rw [hb j, hf j]

/-- FlipRange. -/
theorem F71_spec {b q n s e : Nat} {f : Nat → Bool} {k : Value → W} {w : World} (h : BSet w b q n f) (hse : s < e) (he : e < 524288) (hn : n < 524288)
    (hk : ∀ q' w', BSet w' b q' (max n e) (fun j => f j ^^ rg s e j) → Fr (fun x => x = b ∨ x = q) w w' → (q' = q ∨ w.heap.size ≤ q') → k (.pointer (some ⟨b, 0, none⟩)) w') :
    F71 k (some ⟨b, 0, none⟩) s e w := by
  obtain ⟨⟨ws, rest, hm, hf⟩, hl⟩ := h
  unfold F71
  rw [decide_eq_false (by omega)]
  simp only [BIf_false, NN_mk]
  refine LoadT_int.2 ⟨_, hm.c0, ?_⟩
  have e1 : subI .u64 (e : Int) 1 = ((e - 1 : Nat) : Int) := by rw [subI_u64 (by omega) (by omega)]; omega
  rw [e1]
  have hlt : ∀ j, (f j ^^ rg s e j) = true → j < max n e := fun j hj => by
    cases h1 : f j with
    | true => have := hl j h1; omega
    | false =>
      rw [h1] at hj
      have := rg_iff.1 (show rg s e j = true by simpa using hj)
      omega
  refine BIf_intro (fun hc => ?_) (fun hc => ?_)
  · have hc := of_decide_eq_true hc
    refine F87_call (F87_spec hm (by omega) (by omega) fun q' rest' w1 h1 f1 hq => back0 ?_)
    rw [show e - 1 + 1 = e by omega] at h1
    refine F71_J1_spec h1 hse (Nat.le_refl _) (by omega) fun ws' w2 h2 hb f2 => hk q' w2 ⟨⟨ws', rest', ?_, fun j => ?_⟩, hlt⟩ (f1.trans f2 ?_) hq
    · rw [show max n e = e by omega]; exact h2
    · rw [hb j, wbit_zeros, hf j]
    · rintro x (rfl | rfl)
      · exact .inl (.inl rfl)
      · rcases hq with rfl | hq
        · exact .inl (.inr rfl)
        · exact .inr hq
  · have hc := of_decide_eq_false hc
    refine F71_J1_spec hm hse (by omega) (by omega) fun ws' w2 h2 hb f2 => hk q w2 ⟨⟨ws', rest, ?_, fun j => ?_⟩, hlt⟩ f2 (.inl rfl)
    · rw [show max n e = n by omega]; exact h2
    · rw [hb j, hf j]
end Go.Proofs.Ytopdlfecfgimpaa.E
