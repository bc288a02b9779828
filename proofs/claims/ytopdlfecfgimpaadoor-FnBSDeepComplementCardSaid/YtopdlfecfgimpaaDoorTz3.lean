/-
  Shrink, Compact, AsSlice, AppendTo.
-/
import Derived.Test.YtopdlfecfgimpaaDoorTz2
namespace Go.Proofs.YtopdlfecfgimpaaDoor.E
open Go
set_option linter.unusedSimpArgs false
set_option linter.unusedVariables false
set_option maxRecDepth 100000
set_option maxHeartbeats 2000000

/-- Shrink, to whole words. -/
theorem F57_spec {b q n l m : Nat} {ws rest : List Nat} {k : Value → W} {w : World} (hm : BW w b q n ws rest) (hl : l + 1 = 64 * m) (h0 : 0 < m) (hn : n < 1048576) (hl2 : l < 1048576)
    (hk1 : n ≤ l → k (.pointer (some ⟨b, 0, none⟩)) w)
    (hk2 : ∀ q' w', 64 * m ≤ n → m ≤ ws.length → BW w' b q' (64 * m) (ws.take m) [] → Fr (fun x => x = b ∨ x = q) w w' → w.heap.size ≤ q' → k (.pointer (some ⟨b, 0, none⟩)) w') : F57 k (some ⟨b, 0, none⟩) l w := by
  have hlw := hm.len
  have hcap := hm.cap
  unfold F57
  refine load_int hm.head rfl ?_
  refine BIf_intro (fun hc => ?_) (fun hc => ?_)
  · have hc := of_decide_eq_true hc
    exact hk1 (by omega)
  have hc := of_decide_eq_false hc
  have e1 : addI .u64 (l : Int) 1 = ((64 * m : Nat) : Int) := by rw [← hl]; exact addI_nat (y := 1) (by omega)
  rw [e1]
  refine bind_intro ?_
  refine F63_call (F63_spec (by omega) (back_int ?_))
  rw [show (64 * m + 63) / 64 = m by omega]
  refine hm.lds ?_
  have hmw : m ≤ ws.length := by omega
  rw [decide_eq_false (by omega)]
  simp only [BIf_false]
  obtain ⟨ii, hi1, hi2, hi3, hi4⟩ := inf77
  refine make_intro (P := Go.Proofs.Tryd.prog) m m und43 hi1 hi2 hi3 rfl (by omega) (by omega) (Nat.le_refl _) fun w1 f1 o1 bq z1 => ?_
  have hm1 := hm.fr f1 id id
  have hrep : List.replicate m (Value.int .u64 0) = us (List.replicate m 0) := by rw [us_replicate]; rfl
  rw [hrep] at bq
  have hbl := hm.head.lt
  have hql := hm.row.lt
  refine hm1.lds ⟨⟨by omega, by omega⟩, ?_⟩
  simp only [sliceA_zero, Int.toNat_natCast, Nat.sub_zero]
  refine copy_intro (P := Go.Proofs.Tryd.prog) und43 size77 bq (src := us (ws.take m)) (by simp; omega) ?_ (by simp; omega) us_oneCell fun w2 b2 f2 z2 => ?_
  · intro j v hj
    have hjl : j < m := by have := (List.getElem?_eq_some_iff.1 hj).1; simp at this; omega
    rw [add_mk, Nat.zero_add, hm1.word (by omega)]
    rw [us_get _ _ (by simp; omega)] at hj
    rw [← hj]
    simp only [List.getD_eq_getElem?_getD, List.getElem?_take, hjl, if_true]
  have hlen : (us (ws.take m)).length = m := by simp; omega
  rw [List.take_zero, List.nil_append, Nat.zero_add, hlen, List.drop_eq_nil_of_le (by simp), List.append_nil] at b2
  have hm2 := hm1.fr f2 (show ¬ b = w.heap.size by omega) (show ¬ q = w.heap.size by omega)
  refine store_intro hm2.head (by simp) rfl fun w3 h3 f3 z3 => ?_
  refine store_intro h3 (by simp) rfl fun w4 h4 f4 z4 => ?_
  refine ⟨by decide, ?_⟩
  have er : remI ((64 * m : Nat) : Int) 64 = 0 := by rw [remI_eq (by omega)]; omega
  rw [er]
  have b4 := (b2.fr f3 (show ¬ w.heap.size = b by omega)).fr f4 (show ¬ w.heap.size = b by omega)
  have hr : BW w4 b w.heap.size (64 * m) (ws.take m) [] := by
    refine ⟨?_, ?_, fun x hx => ?_, by simp; omega, by simp; omega⟩
    · have e : (ws.take m).length = m := by simp; omega
      simp only [e, List.length_nil, Nat.add_zero]
      exact h4
    · rw [List.append_nil]; exact b4
    · rw [List.append_nil] at hx
      exact hm.small x (List.mem_append_left _ (List.mem_of_mem_take hx))
  exact hk2 w.heap.size w4 (by omega) hmw hr ((((f1.trans f2 fun x e => .inr (by have : x = w.heap.size := e; omega)).mono (S' := fun x => x = b ∨ x = q) fun _ h => h.elim).trans f3 fun _ h => .inl (.inl h)).trans f4 fun _ h => .inl (.inl h)) (Nat.le_refl _)
/-- Compact. -/
theorem F40_spec {b q n : Nat} {f : Nat → Bool} {k : Value → W} {w : World} (h : BSet w b q n f) (hn : n < 524288)
    (hk : ∀ n' q' w', n' ≤ n → BSet w' b q' n' f → Fr (fun x => x = b ∨ x = q) w w' → (q' = q ∨ w.heap.size ≤ q') → k (.pointer (some ⟨b, 0, none⟩)) w') : F40 k (some ⟨b, 0, none⟩) w := by
  have hself := hk n q w (Nat.le_refl _) h (Fr.refl _ _) (.inl rfl)
  obtain ⟨⟨ws, rest, hm, hf⟩, hl⟩ := h
  have hlw := hm.len
  have cut : ∀ m q' w', 64 * m ≤ n → (∀ j, 64 * m ≤ j → f j = false) → m ≤ ws.length → BW w' b q' (64 * m) (ws.take m) [] → Fr (fun x => x = b ∨ x = q) w w' → w.heap.size ≤ q' → k (.pointer (some ⟨b, 0, none⟩)) w' := by
    intro m q' w' h1 h2 h3 h4 h5 h6
    have hlt : ∀ j, f j = true → j < 64 * m := fun j hj => by
      rcases Nat.lt_or_ge j (64 * m) with h | h
      · exact h
      · rw [h2 j h] at hj; cases hj
    refine hk (64 * m) q' w' h1 ⟨⟨_, _, h4, fun j => ?_⟩, hlt⟩ h5 (.inr h6)
    by_cases hj : j / 64 < m
    · rw [wbit_take hj, hf]
    · rw [wbit_ge (by simp; omega), h2 j (by omega)]
  have J1 : ∀ i : Nat, i ≤ ws.length → (∀ j, 64 * i ≤ j → f j = false) → F40_J1 k (some ⟨b, 0, none⟩) ((i : Int) - 1) w := by
    intro i hi hz
    unfold F40_J1
    have e1 : addI .i64 ((i : Int) - 1) 1 = (i : Int) := by rw [addI_i64 (by omega) (by omega)]; omega
    have e2 : shlI .i64 (i : Int) 6 = ((64 * i : Nat) : Int) := by rw [shlI_def, show (2 : Int) ^ (min 6 IntKind.i64.bits) = 64 from rfl, wrap_i64 (by omega) (by omega)]; omega
    rw [e1, e2, wrap_u64 (by omega) (by omega)]
    refine bind_intro (load_int hm.head rfl ?_)
    refine BIf_intro (fun hc => hself) (fun hc => ?_)
    have hc := of_decide_eq_false hc
    refine BIf_intro (fun hd => ?_) (fun hd => ?_)
    · have hd := of_decide_eq_true hd
      have e3 : subI .u64 ((64 * i : Nat) : Int) 1 = ((64 * i - 1 : Nat) : Int) := by rw [subI_u64 (by omega) (by omega)]; omega
      rw [e3]
      refine F57_call (F57_spec (m := i) hm (by omega) (by omega) (by omega) (by omega) (fun h => back_ptr hself) fun q' w' h1 h2 h3 h4 h5 => back_ptr (cut i q' w' h1 hz h2 h3 h4 h5))
    · have hd := of_decide_eq_false hd
      have : i = 0 := by omega
      subst this
      refine F57_call (F57_spec (l := 63) (m := 1) hm (by omega) (by omega) (by omega) (by omega) (fun h => back_ptr hself) fun q' w' h1 h2 h3 h4 h5 => back_ptr (cut 1 q' w' h1 (fun j hj => hz j (by omega)) h2 h3 h4 h5))
  unfold F40
  refine hm.lds ?_
  have e0 : subI .i64 ((ws.length : Nat) : Int) 1 = ((ws.length : Nat) : Int) - 1 := subI_i64 (by omega) (by omega)
  rw [e0]
  refine bind_intro ?_
  refine F40_L1_rule (fun b' i' w' => b' = some ⟨b, 0, none⟩ ∧ w' = w ∧ ∃ i : Nat, i' = (i : Int) - 1 ∧ i ≤ ws.length ∧ ∀ j, 64 * i ≤ j → f j = false) (fun _ i' _ => (i' + 1).toNat) ?_
    ⟨rfl, rfl, ws.length, rfl, Nat.le_refl _, fun j hj => by rw [← hf, wbit_ge (by omega)]⟩
  rintro b' i' w' ⟨rfl, rfl, i, rfl, hi, hz⟩
  unfold F40_L1
  refine BIf_intro (fun hc => ?_) (fun hc => J1 i hi hz)
  have hc := of_decide_eq_true hc
  refine hm.lds ⟨⟨by omega, by omega⟩, hm.ldw2 (i := i - 1) (by omega) (by omega) ?_⟩
  refine BIf_intro (fun h0 => ?_) (fun h0 => J1 i hi hz)
  have h0 : ws.getD (i - 1) 0 = 0 := by
    have : ((ws.getD (i - 1) 0 : Nat) : Int) = 0 := by simpa using h0
    omega
  have e1 : subI .i64 ((i : Int) - 1) 1 = ((i - 1 : Nat) : Int) - 1 := by rw [subI_i64 (by omega) (by omega)]; omega
  rw [e1]
  refine ⟨⟨rfl, rfl, i - 1, rfl, by omega, fun j hj => ?_⟩, by omega⟩
  by_cases e : 64 * i ≤ j
  · exact hz j e
  · rw [← hf]; exact word_zero h0 (by omega)

/-! ## Lists of places -/
theorem L_length (n : Nat) (f : Nat → Bool) : (L n f).length = cnt n f := by
  induction n with
  | zero => rfl
  | succ n ih => rw [L_succ, List.length_append, ih]; simp only [cnt]; cases f n <;> simp
theorem L_none {a d : Nat} {f : Nat → Bool} (h : ∀ j, a ≤ j → j < a + d → f j = false) : L (a + d) f = L a f := by
  induction d with
  | zero => rfl
  | succ d ih =>
    rw [show a + (d + 1) = (a + d) + 1 by omega, L_succ, ih (fun j h1 h2 => h j h1 (by omega)), h (a + d) (by omega) (by omega)]
    simp
theorem low_pred {x t : Nat} (h : Low x t) (j : Nat) : (x &&& (x - 1)).testBit j = (x.testBit j && !decide (j = t)) := by
  obtain ⟨ht, hb, hl⟩ := h
  have hmod : x % 2 ^ t = 0 := by
    apply Nat.eq_of_testBit_eq
    intro i
    rw [Nat.testBit_mod_two_pow, Nat.zero_testBit]
    by_cases hi : i < t
    · rw [hl i hi, Bool.and_false]
    · rw [decide_eq_false hi, Bool.false_and]
  have hdiv : 2 ^ t * (x / 2 ^ t) = x := by have := Nat.div_add_mod x (2 ^ t); omega
  have hodd : (x / 2 ^ t) % 2 = 1 := by
    have h1 : (x / 2 ^ t).testBit 0 = true := by rw [Nat.testBit_div_two_pow, Nat.zero_add]; exact hb
    rw [Nat.testBit_zero] at h1
    exact of_decide_eq_true h1
  obtain ⟨y, hy⟩ : ∃ y, x / 2 ^ t = 2 * y + 1 := ⟨x / 2 ^ t / 2, by omega⟩
  have hp : 0 < 2 ^ t := Nat.pow_pos (by decide)
  have hx1 : x = 2 ^ t * (2 * y + 1) + 0 := by rw [← hy, hdiv, Nat.add_zero]
  have hx2 : x - 1 = 2 ^ t * (2 * y) + (2 ^ t - 1) := by
    have e : x = 2 ^ t * (2 * y) + 2 ^ t := by rw [hx1, Nat.add_zero, Nat.mul_add, Nat.mul_one]
    generalize 2 ^ t * (2 * y) = A at *
    omega
  rw [Nat.testBit_and, hx2, Nat.testBit_two_pow_mul_add _ (by omega)]
  by_cases h1 : j < t
  · rw [hl j h1]; simp
  · rw [if_neg h1]
    by_cases h2 : j = t
    · subst h2
      rw [hb, Nat.sub_self]
      simp [Nat.testBit_zero]
    · have h3 : x.testBit j = (2 * y + 1).testBit (j - t) := by
        conv => lhs; rw [hx1]
        rw [Nat.testBit_two_pow_mul_add _ hp, if_neg h1]
      obtain ⟨d, hd⟩ : ∃ d, j - t = d + 1 := ⟨j - t - 1, by omega⟩
      rw [h3, hd, Nat.testBit_succ, Nat.testBit_succ, show (2 * y + 1) / 2 = y by omega, show 2 * y / 2 = y by omega, decide_eq_false h2]
      cases y.testBit d <;> simp
/-- The word x of the round i, of which the bits below t are gone. -/
structure Gone (ws : List Nat) (i t x : Nat) : Prop where
  lt : x < 18446744073709551616
  le : t ≤ 64
  bit : ∀ j, x.testBit j = ((ws.getD i 0).testBit j && decide (t ≤ j))
theorem Gone.next {ws : List Nat} {i t x u : Nat} {f : Nat → Bool} (h : Gone ws i t x) (hu : Low x u) (hf : ∀ j, wbit ws j = f j) : t ≤ u ∧ Gone ws i (u + 1) (x &&& (x - 1)) ∧ L (64 * i + (u + 1)) f = L (64 * i + t) f ++ [64 * i + u] := by
  have hb := hu.2.1
  rw [h.bit] at hb
  have hb := (Bool.and_eq_true _ _).mp hb
  have htu := of_decide_eq_true hb.2
  have hlow : ∀ j, t ≤ j → j < u → (ws.getD i 0).testBit j = false := fun j h1 h2 => by
    have := hu.2.2 j h2
    rw [h.bit, decide_eq_true h1, Bool.and_true] at this
    exact this
  have hu64 := hu.1
  refine ⟨htu, ⟨Nat.lt_of_le_of_lt Nat.and_le_left h.lt, by omega, fun j => ?_⟩, ?_⟩
  · rw [low_pred hu, h.bit]
    by_cases h1 : u + 1 ≤ j
    · rw [decide_eq_true h1, decide_eq_true (by omega), decide_eq_false (by omega)]; simp
    · rw [decide_eq_false h1, Bool.and_false]
      by_cases h2 : j = u
      · rw [decide_eq_true h2]; simp
      · by_cases h3 : t ≤ j
        · rw [hlow j h3 (by omega)]; simp
        · rw [decide_eq_false h3]; simp
  · have hnone : ∀ j, 64 * i + t ≤ j → j < 64 * i + t + (u - t) → f j = false := fun j h1 h2 => by
      rw [← hf]; unfold wbit
      rw [show j / 64 = i by omega]
      exact hlow _ (by omega) (by omega)
    have hat : f (64 * i + u) = true := by
      rw [← hf]; unfold wbit
      rw [show (64 * i + u) / 64 = i by omega, show (64 * i + u) % 64 = u by omega]; exact hb.1
    rw [show 64 * i + (u + 1) = (64 * i + u) + 1 by omega, L_succ, hat, if_pos rfl, ← L_none hnone, show 64 * i + t + (u - t) = 64 * i + u by omega]
theorem Gone.done {ws : List Nat} {i t : Nat} {f : Nat → Bool} (h : Gone ws i t 0) (hf : ∀ j, wbit ws j = f j) : L (64 * (i + 1)) f = L (64 * i + t) f := by
  have ht := h.le
  rw [show 64 * (i + 1) = 64 * i + t + (64 - t) by omega]
  refine L_none fun j h1 h2 => ?_
  rw [← hf]; unfold wbit
  rw [show j / 64 = i by omega]
  have := h.bit (j % 64)
  rw [Nat.zero_testBit, decide_eq_true (by omega), Bool.and_true] at this
  exact this.symm
theorem Gone.begin {ws : List Nat} {i : Nat} (h : ws.getD i 0 < 18446744073709551616) : Gone ws i 0 (ws.getD i 0) := ⟨h, by decide, fun j => by simp⟩
theorem cnt_lt_of {n m : Nat} {f : Nat → Bool} (h : n < m) (hf : f n = true) : cnt n f < cnt m f := by
  have := cnt_split f (show n + 1 ≤ m by omega)
  simp only [cnt, hf] at this
  simp at this; omega
/-- AsSlice, into a row that has room for just the bits. -/
theorem F34_spec {b q n qb : Nat} {f : Nat → Bool} {vs : List Nat} {k : Value → W} {w : World} (h : BSet w b q n f) (hT : Tab w) (hn : n < 1048576) (hb : Blk w qb 22 (us vs)) (hv : vs.length = cnt n f) (hne : qb ≠ b ∧ qb ≠ q ∧ qb ≠ 0)
    (hk : ∀ c w', Blk w' qb 22 (us (L n f)) → Fr (fun x => x = qb) w w' → k (.slice (some ⟨qb, 0, none⟩) (L n f).length c) w') : F34 k (some ⟨b, 0, none⟩) (some ⟨qb, 0, none⟩) vs.length vs.length w := by
  obtain ⟨⟨ws, rest, hm, hf⟩, hl⟩ := h
  have hlw := hm.len
  have hcn := cnt_le n f
  unfold F34
  refine ⟨⟨by omega, Int.le_refl _⟩, ?_⟩
  simp only [sliceA_zero, Int.toNat_natCast, Nat.sub_zero]
  refine hm.lds ?_
  refine F34_L1_rule (fun bp bl' bc sz sp sl sc n' i' w' => bp = some ⟨qb, 0, none⟩ ∧ bl' = vs.length ∧ bc = vs.length ∧ sp = some ⟨q, 0, none⟩ ∧ sl = ws.length ∧ n' = ((ws.length : Nat) : Int) ∧
      ∃ (i : Nat) (zs : List Nat), i' = i ∧ i ≤ ws.length ∧ sz = (((L (64 * i) f).length : Nat) : Int) ∧ Blk w' qb 22 (us (L (64 * i) f ++ zs)) ∧ (L (64 * i) f ++ zs).length = vs.length ∧ Fr (fun x => x = qb) w w')
    (fun _ _ _ _ _ _ _ _ i' _ => ws.length - i'.toNat) ?_ ⟨rfl, rfl, rfl, rfl, rfl, rfl, 0, vs, rfl, Nat.zero_le _, rfl, hb, rfl, Fr.refl _ _⟩
  clear hb
  rintro bp bl' bc sz sp sl sc n' i' w' ⟨rfl, rfl, rfl, rfl, rfl, rfl, i, zs, rfl, hi, rfl, hb, hlen, fr⟩
  unfold F34_L1
  have hT' := hT.fr fr (fun e => hne.2.2 e.symm)
  have hm' := hm.fr fr (fun e => hne.1 e.symm) (fun e => hne.2.1 e.symm)
  refine BIf_intro (fun hc => ?_) (fun hc => ?_)
  · have hc := of_decide_eq_true hc
    have hi' : i < ws.length := by omega
    refine ⟨⟨by omega, by omega⟩, hm'.ldw2 rfl hi' ?_⟩
    refine F34_L2_rule (fun bp bl' bc sz ix wd sp sl sc n' i'' w'' => bp = some ⟨qb, 0, none⟩ ∧ bl' = vs.length ∧ bc = vs.length ∧ ix = (i : Int) ∧ sp = some ⟨q, 0, none⟩ ∧ sl = ws.length ∧ n' = ((ws.length : Nat) : Int) ∧ i'' = (i : Int) ∧
        ∃ (t x : Nat) (zs : List Nat), wd = (x : Int) ∧ Gone ws i t x ∧ sz = (((L (64 * i + t) f).length : Nat) : Int) ∧ Blk w'' qb 22 (us (L (64 * i + t) f ++ zs)) ∧ (L (64 * i + t) f ++ zs).length = vs.length ∧ Fr (fun x => x = qb) w w'')
      (fun _ _ _ _ _ wd _ _ _ _ _ _ => wd.toNat) ?_ ⟨rfl, rfl, rfl, rfl, rfl, rfl, rfl, rfl, 0, _, zs, rfl, Gone.begin (hm.word_lt i), rfl, hb, hlen, fr⟩
    clear hb hlen fr hT' hm' zs
    rintro bp bl' bc sz ix wd sp sl sc n' i'' w'' ⟨rfl, rfl, rfl, rfl, rfl, rfl, rfl, rfl, t, x, zs, rfl, hg, rfl, hb, hlen, fr⟩
    have hT' := hT.fr fr (fun e => hne.2.2 e.symm)
    unfold F34_L2
    refine BIf_intro (fun hz => ?_) (fun hz => ?_)
    · have hz : x ≠ 0 := fun e => by rw [e] at hz; simp at hz
      obtain ⟨u, hu⟩ := low_ex hz hg.lt
      have hu64 := hu.1
      obtain ⟨htu, hg2, hL⟩ := hg.next hu hf
      have hat : f (64 * i + u) = true := by
        have : 64 * i + u ∈ L (64 * i + (u + 1)) f := by rw [hL]; simp
        exact (mem_L.1 this).2
      have hin := hl _ hat
      have hlt := cnt_lt_of hin hat
      have hcl : (L (64 * i + t) f).length = cnt (64 * i + u) f := by
        have h1 := congrArg List.length hL
        have h3 : cnt (64 * i + (u + 1)) f = cnt (64 * i + u) f + 1 := by
          rw [show 64 * i + (u + 1) = (64 * i + u) + 1 by omega]
          show cnt (64 * i + u) f + (f (64 * i + u)).toNat = _
          rw [hat]; rfl
        rw [L_length, List.length_append, List.length_singleton] at h1
        omega
      refine F53_call (F53_spec hT' hu hg.lt (back_int ?_))
      have e3 : shlI .i64 (i : Int) 6 = ((64 * i : Nat) : Int) := by rw [shlI_def, show (2 : Int) ^ (min 6 IntKind.i64.bits) = 64 from rfl, wrap_i64 (by omega) (by omega)]; omega
      have e4 : addI .i64 ((64 * i : Nat) : Int) (u : Int) = ((64 * i + u : Nat) : Int) := by rw [addI_i64 (by omega) (by omega)]; omega
      have e5 : addI .i64 (((L (64 * i + t) f).length : Nat) : Int) 1 = (((L (64 * i + t) f).length + 1 : Nat) : Int) := by rw [addI_i64 (by omega) (by omega)]; omega
      have hx0 : 0 < x := Nat.pos_of_ne_zero hz
      have hxlt := hg.lt
      have e6 : subI .u64 (x : Int) 1 = ((x - 1 : Nat) : Int) := by rw [subI_u64 (by omega) (by omega)]; omega
      rw [e3, e4, wrap_u64 (by omega) (by omega), e5, e6, andI_nat hg.lt (by omega)]
      refine ⟨⟨by omega, by omega⟩, ?_⟩
      rw [Int.toNat_natCast, add_mk, Nat.zero_add]
      have hzs : ∃ z zs', zs = z :: zs' := by
        match zs, hlen with
        | [], hlen => simp at hlen; omega
        | z :: zs', _ => exact ⟨z, zs', rfl⟩
      obtain ⟨z, zs', rfl⟩ := hzs
      refine store_intro hb (by rw [us_length, hlen]; omega) rfl fun w3 b3 f3 z3 => bind_intro ?_
      have eset : (us (L (64 * i + t) f ++ z :: zs')).set (L (64 * i + t) f).length (.int .u64 ((64 * i + u : Nat) : Int)) = us (L (64 * i + (u + 1)) f ++ zs') := by
        rw [← us_set, hL, List.set_append_right _ _ (Nat.le_refl _), Nat.sub_self]
        simp
      rw [eset] at b3
      have hl2 : (L (64 * i + (u + 1)) f).length = (L (64 * i + t) f).length + 1 := by rw [hL]; simp
      refine ⟨⟨rfl, rfl, rfl, rfl, rfl, rfl, rfl, rfl, u + 1, _, zs', rfl, hg2, by rw [hl2], b3, ?_, fr.trans f3 fun _ h => .inl h⟩, ?_⟩
      · rw [← hlen]; simp only [List.length_append, hl2, List.length_cons]; omega
      · have : x &&& (x - 1) ≤ x - 1 := Nat.and_le_right
        simp only [Int.toNat_natCast]; omega
    · have hz : x = 0 := by
        have : ((x : Nat) : Int) = 0 := by simpa using hz
        omega
      subst hz
      have ei : addI .i64 (i : Int) 1 = ((i + 1 : Nat) : Int) := by rw [addI_i64 (by omega) (by omega)]; omega
      rw [ei]
      have hd := hg.done hf
      refine ⟨⟨rfl, rfl, rfl, rfl, rfl, rfl, i + 1, zs, rfl, by omega, by rw [hd], by rw [hd]; exact hb, by rw [hd]; exact hlen, fr⟩, by omega⟩
  · have hc := of_decide_eq_false hc
    have : i = ws.length := by omega
    subst this
    have hLn : L (64 * ws.length) f = L n f := L_more (by omega) hl
    rw [hLn] at hb hlen ⊢
    have hzs : zs = [] := by
      rw [List.length_append, L_length, hv] at hlen
      exact List.length_eq_zero_iff.1 (by omega)
    subst hzs
    rw [List.append_nil] at hb
    refine ⟨⟨by omega, by rw [L_length, hv]; omega⟩, ?_⟩
    simp only [sliceA_zero, Int.toNat_natCast, Nat.sub_zero]
    exact hk _ _ hb fr
/-- AppendTo, to nothing. -/
theorem F36_spec {b q n : Nat} {f : Nat → Bool} {k : Value → W} {w : World} (h : BSet w b q n f) (hT : Tab w) (hn : n < 1048576)
    (hk : ∀ p c w', Own w' 22 p (L n f).length c (us (L n f)) → (∀ x, bl p x → w.heap.size ≤ x) → Fr (fun _ => False) w w' → k (.slice p (L n f).length c) w') : F36 k (some ⟨b, 0, none⟩) none 0 0 w := by
  obtain ⟨⟨ws, rest, hm, hf⟩, hl⟩ := h
  have hlw := hm.len
  have hcn := cnt_le n f
  unfold F36
  refine hm.lds ?_
  refine F36_L1_rule (fun bp bl' bc sp sl sc n' i' w' => sp = some ⟨q, 0, none⟩ ∧ sl = ws.length ∧ n' = ((ws.length : Nat) : Int) ∧
      ∃ i : Nat, i' = i ∧ i ≤ ws.length ∧ bl' = (L (64 * i) f).length ∧ Own w' 22 bp bl' bc (us (L (64 * i) f)) ∧ (∀ x, bl bp x → w.heap.size ≤ x) ∧ Fr (fun _ => False) w w')
    (fun _ _ _ _ _ _ _ i' _ => ws.length - i'.toNat) ?_ ⟨rfl, rfl, rfl, 0, rfl, Nat.zero_le _, rfl, Own.nil _ _, (fun x h => by obtain ⟨a, h, _⟩ := h; cases h), Fr.refl _ _⟩
  rintro bp bl' bc sp sl sc n' i' w' ⟨rfl, rfl, rfl, i, rfl, hi, rfl, own, hbl, fr⟩
  unfold F36_L1
  have hm' := hm.fr fr id id
  refine BIf_intro (fun hc => ?_) (fun hc => ?_)
  · have hc := of_decide_eq_true hc
    have hi' : i < ws.length := by omega
    refine ⟨⟨by omega, by omega⟩, hm'.ldw2 rfl hi' ?_⟩
    refine F36_L2_rule (fun bp bl' bc ix wd sp sl sc n' i'' w'' => ix = (i : Int) ∧ sp = some ⟨q, 0, none⟩ ∧ sl = ws.length ∧ n' = ((ws.length : Nat) : Int) ∧ i'' = (i : Int) ∧
        ∃ t x : Nat, wd = (x : Int) ∧ Gone ws i t x ∧ bl' = (L (64 * i + t) f).length ∧ Own w'' 22 bp bl' bc (us (L (64 * i + t) f)) ∧ (∀ x, bl bp x → w.heap.size ≤ x) ∧ Fr (fun _ => False) w w'')
      (fun _ _ _ _ wd _ _ _ _ _ _ => wd.toNat) ?_ ⟨rfl, rfl, rfl, rfl, rfl, 0, _, rfl, Gone.begin (hm.word_lt i), rfl, own, hbl, fr⟩
    clear own hbl fr hm'
    rintro bp bl' bc ix wd sp sl sc n' i'' w'' ⟨rfl, rfl, rfl, rfl, rfl, t, x, rfl, hg, rfl, own, hbl, fr⟩
    have hT' := hT.fr0 fr
    unfold F36_L2
    refine BIf_intro (fun hz => ?_) (fun hz => ?_)
    · have hz : x ≠ 0 := fun e => by rw [e] at hz; simp at hz
      obtain ⟨u, hu⟩ := low_ex hz hg.lt
      have hu64 := hu.1
      obtain ⟨htu, hg2, hL⟩ := hg.next hu hf
      refine F53_call (F53_spec hT' hu hg.lt (back_int ?_))
      have e3 : shlI .i64 (i : Int) 6 = ((64 * i : Nat) : Int) := by rw [shlI_def, show (2 : Int) ^ (min 6 IntKind.i64.bits) = 64 from rfl, wrap_i64 (by omega) (by omega)]; omega
      have e4 : addI .i64 ((64 * i : Nat) : Int) (u : Int) = ((64 * i + u : Nat) : Int) := by rw [addI_i64 (by omega) (by omega)]; omega
      have hx0 : 0 < x := Nat.pos_of_ne_zero hz
      have hxlt := hg.lt
      have e6 : subI .u64 (x : Int) 1 = ((x - 1 : Nat) : Int) := by rw [subI_u64 (by omega) (by omega)]; omega
      rw [e3, e4, wrap_u64 (by omega) (by omega), e6, andI_nat hg.lt (by omega)]
      obtain ⟨ii, hi1, hi2, hi3, hi4⟩ := inf22
      have hle := L_length_le (64 * i + t) f
      refine append1 (P := Go.Proofs.Tryd.prog) und23 hi1 hi2 hi3 rfl (by omega) own rfl rfl (by omega) fun q' d' w6 f6 own6 hp6 hs6 => bind_intro ?_
      have hl2 : (L (64 * i + (u + 1)) f).length = (L (64 * i + t) f).length + 1 := by rw [hL]; simp
      refine ⟨⟨rfl, rfl, rfl, rfl, rfl, u + 1, _, rfl, hg2, by rw [hl2], ?_, fun y hy => ?_, fr.trans f6 fun y hy => .inr (hbl y hy)⟩, ?_⟩
      · rw [hL, us_append]; exact own6
      · rcases hp6 y hy with h | h
        · exact hbl y h
        · exact Nat.le_trans fr.size h
      · have : x &&& (x - 1) ≤ x - 1 := Nat.and_le_right
        simp only [Int.toNat_natCast]; omega
    · have hz : x = 0 := by
        have : ((x : Nat) : Int) = 0 := by simpa using hz
        omega
      subst hz
      have ei : addI .i64 (i : Int) 1 = ((i + 1 : Nat) : Int) := by rw [addI_i64 (by omega) (by omega)]; omega
      rw [ei]
      have hd := hg.done hf
      refine ⟨⟨rfl, rfl, rfl, i + 1, rfl, by omega, by rw [hd], by rw [hd]; exact own, hbl, fr⟩, by omega⟩
  · have hc := of_decide_eq_false hc
    have : i = ws.length := by omega
    subst this
    have hLn : L (64 * ws.length) f = L n f := L_more (by omega) hl
    rw [hLn] at own ⊢
    exact hk _ _ _ own hbl fr
end Go.Proofs.YtopdlfecfgimpaaDoor.E
