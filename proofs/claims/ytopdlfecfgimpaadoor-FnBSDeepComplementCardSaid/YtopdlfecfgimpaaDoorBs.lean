/-
  The bitset's memory, and what its small methods do to it: New, Len, Test, Set, Flip.
-/
import Derived.Test.YtopdlfecfgimpaaDoorNew
namespace Go.Proofs.YtopdlfecfgimpaaDoor.E
open Go
set_option linter.unusedSimpArgs false
set_option linter.unusedVariables false
set_option maxRecDepth 100000

def us (ws : List Nat) : List Value := ws.map fun n : Nat => .int .u64 (n : Int)
@[simp] theorem us_length (ws : List Nat) : (us ws).length = ws.length := by simp [us]
@[simp] theorem us_append (a b : List Nat) : us (a ++ b) = us a ++ us b := by simp [us]
@[simp] theorem us_set (a : List Nat) (i n : Nat) : us (a.set i n) = (us a).set i (.int .u64 n) := by simp [us, List.map_set]
theorem us_get (ws : List Nat) (i : Nat) (h : i < ws.length) : (us ws)[i]? = some (.int .u64 (ws.getD i 0 : Nat)) := by simp [us, h]
theorem us_replicate (m n : Nat) : us (List.replicate m n) = List.replicate m (.int .u64 n) := by simp [us]

/-- The words ws, the spare ones behind them: the memory of a bitset at block b, its words at block q. -/
structure BW (w : World) (b q n : Nat) (ws rest : List Nat) : Prop where
  head : Blk w b 63 [.int .u64 n, .slice (some ⟨q, 0, none⟩) ws.length (ws.length + rest.length)]
  row : Blk w q 65 (us (ws ++ rest))
  small : ∀ x ∈ ws ++ rest, x < 18446744073709551616
  len : ws.length = (n + 63) / 64
  cap : ws.length ≤ 16777216 ∧ ws.length + rest.length ≤ 9223372036854775807
/-- A bitset of n places at block b: the bit i is 'f i'. -/
structure BSet (w : World) (b q n : Nat) (f : Nat → Bool) : Prop where
  mem : ∃ ws rest, BW w b q n ws rest ∧ ∀ i, wbit ws i = f i
  le : ∀ i, f i = true → i < n

theorem BW.ne {w : World} {b q n : Nat} {ws rest : List Nat} (h : BW w b q n ws rest) : b ≠ q := fun e => by
  subst e; exact absurd (h.head.unique h.row).1 (by decide)
theorem BW.fr {S : Nat → Prop} {w w' : World} {b q n : Nat} {ws rest : List Nat} (h : BW w b q n ws rest) (f : Fr S w w') (h1 : ¬ S b) (h2 : ¬ S q) : BW w' b q n ws rest :=
  ⟨h.head.fr f h1, h.row.fr f h2, h.small, h.len, h.cap⟩
theorem BSet.fr {S : Nat → Prop} {w w' : World} {b q n : Nat} {f : Nat → Bool} (h : BSet w b q n f) (fr : Fr S w w') (h1 : ¬ S b) (h2 : ¬ S q) : BSet w' b q n f := by
  obtain ⟨⟨ws, rest, hm, hf⟩, hl⟩ := h
  exact ⟨⟨ws, rest, hm.fr fr h1 h2, hf⟩, hl⟩
theorem BSet.ne {w : World} {b q n : Nat} {f : Nat → Bool} (h : BSet w b q n f) : b ≠ q := by obtain ⟨⟨_, _, h, _⟩, _⟩ := h; exact h.ne
theorem BSet.lt {w : World} {b q n : Nat} {f : Nat → Bool} (h : BSet w b q n f) : b < w.heap.size ∧ q < w.heap.size := by obtain ⟨⟨_, _, h, _⟩, _⟩ := h; exact ⟨h.head.lt, h.row.lt⟩
theorem BW.c0 {w : World} {b q n : Nat} {ws rest : List Nat} (h : BW w b q n ws rest) : w.cell? ⟨b, 0, none⟩ = some (.int .u64 n) := by rw [h.head.cell]; rfl
theorem BW.c1 {w : World} {b q n : Nat} {ws rest : List Nat} (h : BW w b q n ws rest) : w.cell? ⟨b, 1, none⟩ = some (.slice (some ⟨q, 0, none⟩) ws.length (ws.length + rest.length)) := by rw [h.head.cell]; rfl
theorem BW.word {w : World} {b q n : Nat} {ws rest : List Nat} (h : BW w b q n ws rest) {i : Nat} (hi : i < ws.length) : w.cell? ⟨q, i, none⟩ = some (.int .u64 (ws.getD i 0 : Nat)) := by
  rw [h.row.cell, us_append, List.getElem?_append_left (by simpa using hi), us_get ws i hi]
theorem BW.word_lt {w : World} {b q n : Nat} {ws rest : List Nat} (h : BW w b q n ws rest) (i : Nat) : ws.getD i 0 < 18446744073709551616 := by
  rw [List.getD_eq_getElem?_getD]
  by_cases hi : i < ws.length
  · rw [List.getElem?_eq_getElem hi]; exact h.small _ (List.mem_append_left _ (List.getElem_mem hi))
  · rw [List.getElem?_eq_none (Nat.le_of_not_lt hi)]; decide
/-- One word is written. -/
theorem BW.store {w : World} {b q n : Nat} {ws rest : List Nat} (h : BW w b q n ws rest) {i x : Nat} (hi : i < ws.length) (hx : x < 18446744073709551616) :
    BW (w.setCell ⟨q, i, none⟩ (.int .u64 x)) b q n (ws.set i x) rest := by
  refine ⟨by rw [List.length_set]; exact h.head.set_ne _ h.ne, ?_, ?_, by rw [List.length_set]; exact h.len, by rw [List.length_set]; exact h.cap⟩
  · have := h.row.set i (.int .u64 x)
    rw [us_append, us_set]
    rw [us_append, List.set_append_left _ _ (by simpa using hi)] at this
    exact this
  · intro y hy
    rcases List.mem_append.1 hy with hy | hy
    · rcases List.mem_or_eq_of_mem_set hy with hy | rfl
      · exact h.small y (List.mem_append_left _ hy)
      · exact hx
    · exact h.small y (List.mem_append_right _ hy)

/-- Len. -/
theorem F44_spec {b q n : Nat} {ws rest : List Nat} {k : Value → W} {w : World} (h : BW w b q n ws rest) (hk : k (.int .u64 n) w) : F44 k (some ⟨b, 0, none⟩) w := by
  unfold F44
  simp only [NN_mk, LoadT_int, h.c0, Option.some.injEq, Value.int.injEq, true_and, exists_eq_left']
  exact hk
/-- Test. -/
theorem F39_spec {b q n i : Nat} {ws rest : List Nat} {k : Value → W} {w : World} (h : BW w b q n ws rest) (hi : i < 16777216)
    (hk : ∀ w', Fr (fun _ => False) w w' → k (.bool (decide (i < n) && wbit ws i)) w') : F39 k (some ⟨b, 0, none⟩) i w := by
  unfold F39
  simp only [NN_mk, LoadT_int, h.c0, Option.some.injEq, Value.int.injEq, true_and, exists_eq_left']
  refine BIf_intro (fun hc => ?_) (fun hc => ?_)
  · have hc := of_decide_eq_true hc
    have := hk w (Fr.refl _ _)
    rwa [decide_eq_false (by omega), Bool.false_and] at this
  · have hc := of_decide_eq_false hc
    have hw : i / 64 < ws.length := by rw [h.len]; omega
    have h' : BW w.drew b q n ws rest := h.fr (Fr.drew (fun _ => False) w) id id
    simp only [Drw_iff, LoadT_slice, add_mk, Nat.zero_add, h'.c1, Option.some.injEq, Value.slice.injEq, shr6, Int.toNat_natCast]
    refine ⟨_, _, _, ⟨rfl, rfl, rfl⟩, ?_⟩
    simp only [NN_mk, Req_iff]
    refine ⟨⟨Int.natCast_nonneg _, Int.ofNat_lt.2 hw⟩, ?_⟩
    simp only [LoadT_int, add_mk, Nat.zero_add, h'.word hw, Option.some.injEq, Value.int.injEq, true_and, exists_eq_left']
    refine F52_call (F52_spec (by omega) (back_int ?_))
    simp only [Chk1_iff, add_mk, Nat.zero_add, h'.word hw, h'.c1, Req_iff, true_and, Bind_iff, Int.toNat_natCast]
    refine ⟨Int.natCast_nonneg _, ?_⟩
    have hp : (2 : Nat) ^ (i % 64) < 2 ^ 64 := Nat.pow_lt_pow_right (by decide) (by omega)
    rw [shl1_nat (by omega), andI_nat (h.word_lt _) hp]
    have := hk w.drew (Fr.drew _ _)
    rw [decide_eq_true (by omega), Bool.true_and] at this
    have e : ((((ws.getD (i / 64) 0 &&& 2 ^ (i % 64) : Nat) : Int)) != 0) = wbit ws i := by
      unfold wbit
      rw [← and_two_pow_ne]
      generalize ws.getD (i / 64) 0 &&& 2 ^ (i % 64) = z
      cases z <;> rfl
    rw [e]; exact this

theorem F51_J1_spec {b n q l c i : Nat} {k : Value → W} {w : World} (h : Blk w b 63 [.int .u64 n, .slice (some ⟨q, 0, none⟩) l c]) (hi : i < 1048576)
    (hk : ∀ w', Blk w' b 63 [.int .u64 (i + 1 : Nat), .slice (some ⟨q, 0, none⟩) l c] → Fr (fun x => x = b) w w' → w'.heap.size = w.heap.size → k (.tuple #[]) w') : F51_J1 k (some ⟨b, 0, none⟩) i w := by
  unfold F51_J1
  have e : addI .u64 (i : Int) 1 = ((i + 1 : Nat) : Int) := by rw [addI_u64 (by omega) (by omega)]; omega
  simp only [NN_mk, Store1_iff, oneC_int, true_and, e]
  refine ⟨⟨_, by rw [h.cell]; rfl⟩, h.frozen 0, hk _ ?_ (Fr.setCell _ _ _ rfl) (by simp)⟩
  exact h.set 0 _

theorem us_oneCell {ws : List Nat} : ∀ v ∈ us ws, v.oneCell' = true := by
  intro v hv
  obtain ⟨n, _, rfl⟩ := List.mem_map.1 hv
  rfl
theorem size77 : (Go.Proofs.Tryd.prog.info? 65).map (·.size) = some 1 := by kernel_rfl

set_option maxRecDepth 100000 in
/-- The bitset is made longer. -/
theorem F51_spec {b q n i : Nat} {ws rest : List Nat} {k : Value → W} {w : World} (h : BW w b q n ws rest) (hn : n ≤ i) (hi : i < 1048576)
    (hk : ∀ q' rest' w', BW w' b q' (i + 1) (ws ++ List.replicate ((i + 64) / 64 - ws.length) 0) rest' → Fr (fun x => x = b ∨ x = q) w w' → (q' = q ∨ w.heap.size ≤ q') → k (.tuple #[]) w') :
    F51 k (some ⟨b, 0, none⟩) i w := by
  unfold F51
  refine F64_call (F64_spec (back_int ?_))
  rw [decide_eq_false (by omega)]
  simp only [BIf_false]
  have e1 : addI .u64 (i : Int) 1 = ((i + 1 : Nat) : Int) := by rw [addI_u64 (by omega) (by omega)]; omega
  rw [e1]
  refine F63_call (F63_spec (by omega) (back_int ?_))
  have em : (i + 1 + 63) / 64 = (i + 64) / 64 := rfl
  rw [em]
  have hlen := h.len
  have hlm : ws.length ≤ (i + 64) / 64 := by omega
  have hm : (i + 64) / 64 ≤ 16400 := by omega
  have hlen' : ∀ d, (ws ++ List.replicate ((i + 64) / 64 - ws.length) d).length = (i + 1 + 63) / 64 := by intro d; simp; omega
  generalize hmm : (i + 64) / 64 = m at *
  simp only [NN_mk, LoadT_slice, add_mk, Nat.zero_add, h.c1, Option.some.injEq, Value.slice.injEq]
  refine ⟨_, _, _, ⟨rfl, rfl, rfl⟩, ?_⟩
  simp only [Option.isNone_some, BIf_false, NN_mk, LoadT_slice, add_mk, Nat.zero_add, h.c1, Option.some.injEq, Value.slice.injEq]
  refine ⟨_, _, _, ⟨rfl, rfl, rfl⟩, ?_⟩
  refine BIf_intro (fun hc => ?_) (fun hc => ?_)
  · have hc := of_decide_eq_true hc
    have hc : m ≤ ws.length + rest.length := by omega
    simp only [NN_mk, LoadT_slice, add_mk, Nat.zero_add, h.c1, Option.some.injEq, Value.slice.injEq]
    refine ⟨_, _, _, ⟨rfl, rfl, rfl⟩, _, _, _, ⟨rfl, rfl, rfl⟩, ?_⟩
    have es : sliceA (some ⟨q, 0, none⟩) 0 (ws.length + rest.length) 1 = some ⟨q, 0, none⟩ := by unfold sliceA; split <;> simp [add_mk]
    simp only [Req_iff, es, Int.toNat_natCast, Nat.sub_zero, Store1_iff, oneC_slice, true_and]
    refine ⟨⟨by omega, by omega⟩, ⟨_, h.c1⟩, h.head.frozen 1, ?_⟩
    have f1 : Fr (fun x => x = b ∨ x = q) w (w.setCell ⟨b, 1, none⟩ (.slice (some ⟨q, 0, none⟩) m (ws.length + rest.length))) := Fr.setCell _ _ _ (.inl rfl)
    have b1 : Blk (w.setCell ⟨b, 1, none⟩ (.slice (some ⟨q, 0, none⟩) m (ws.length + rest.length))) b 63 [.int .u64 n, .slice (some ⟨q, 0, none⟩) m (ws.length + rest.length)] := h.head.set 1 _
    have q1 : Blk (w.setCell ⟨b, 1, none⟩ (.slice (some ⟨q, 0, none⟩) m (ws.length + rest.length))) q 65 (us (ws ++ rest)) := h.row.set_ne _ (fun e => h.ne e.symm)
    generalize w.setCell ⟨b, 1, none⟩ (.slice (some ⟨q, 0, none⟩) m (ws.length + rest.length)) = w1 at *
    refine BIf_intro (fun hc2 => ?_) (fun hc2 => ?_)
    · have hc2 := of_decide_eq_true hc2
      simp only [NN_mk, LoadT_slice, add_mk, Nat.zero_add, b1.cell, Option.some.injEq, Value.slice.injEq, List.getElem?_cons_succ, List.getElem?_cons_zero]
      refine ⟨_, _, _, ⟨rfl, rfl, rfl⟩, ?_⟩
      have es2 : sliceA (some ⟨q, 0, none⟩) ws.length (ws.length + rest.length) 1 = some ⟨q, ws.length, none⟩ := by
        unfold sliceA; rw [if_neg (by omega)]; simp [add_mk]
      simp only [Req_iff, Int.toNat_natCast, es2]
      refine ⟨⟨by omega, by omega⟩, ?_⟩
      have hne := h.ne
      refine F51_L1_rule (fun b' i' sp sl sc x24 x25 w2 => b' = some ⟨b, 0, none⟩ ∧ i' = i ∧ sp = some ⟨q, ws.length, none⟩ ∧ sl = m - ws.length ∧ x24 = ((m - ws.length : Nat) : Int) ∧
          ∃ x : Nat, x25 = x ∧ x ≤ m - ws.length ∧ Fr (fun x => x = b ∨ x = q) w w2 ∧ Blk w2 b 63 [.int .u64 n, .slice (some ⟨q, 0, none⟩) m (ws.length + rest.length)] ∧
            Blk w2 q 65 (us (ws ++ (List.replicate x 0 ++ rest.drop x)))) (fun _ _ _ _ _ _ x25 _ => m - ws.length - x25.toNat) ?_ ?_
      · rintro b' i' sp sl sc x24 x25 w2 ⟨rfl, rfl, rfl, rfl, rfl, x, rfl, hx, f2, b2, q2⟩
        unfold F51_L1
        refine BIf_intro (fun hc3 => ?_) (fun hc3 => ?_)
        · have hc3 := of_decide_eq_true hc3
          have hq2 : (us (ws ++ (List.replicate x 0 ++ rest.drop x)))[ws.length + x]? = some (.int .u64 (rest.getD x 0 : Nat)) := by
            rw [us_get _ _ (by simp; omega)]
            simp only [List.getD_eq_getElem?_getD]
            rw [List.getElem?_append_right (by omega), List.getElem?_append_right (by simp), List.getElem?_drop]
            simp
          simp only [NN_mk, Req_iff, Int.toNat_natCast, add_mk, Store1_iff, oneC_int, true_and]
          refine ⟨⟨by omega, by omega⟩, ⟨_, by rw [q2.cell]; exact hq2⟩, q2.frozen _, ⟨x + 1, ?_, by omega, ?_, ?_, ?_⟩, ?_⟩
          · rw [addI_i64 (by omega) (by omega)]; omega
          · exact f2.trans (Fr.setCell (S := fun x => x = b ∨ x = q) _ _ _ (.inr rfl)) fun _ h => .inl h
          · exact b2.set_ne _ hne
          · have := q2.set (ws.length + x) (.int .u64 (0 : Nat))
            rw [← us_set] at this
            have e : (ws ++ (List.replicate x 0 ++ rest.drop x)).set (ws.length + x) 0 = ws ++ (List.replicate (x + 1) 0 ++ rest.drop (x + 1)) := by
              rw [List.set_append_right _ _ (by omega), List.set_append_right _ _ (by simp)]
              simp only [List.length_replicate, Nat.add_sub_cancel_left, Nat.sub_self]
              rw [List.replicate_succ', List.append_assoc]
              congr 2
              rw [List.drop_eq_getElem_cons (by omega)]
              rfl
            rw [e] at this
            exact this
          · rw [addI_i64 (by omega) (by omega)]; omega
        · have hc3 := of_decide_eq_false hc3
          have hx : x = m - ws.length := by omega
          subst hx
          refine F51_J1_spec b2 hi fun w3 b3 f3 hs3 => hk q (rest.drop (m - ws.length)) w3 ⟨?_, ?_, ?_, ?_, ?_⟩ (f2.trans f3 fun _ h => .inl (.inl h)) (.inl rfl)
          · have e : (ws ++ List.replicate (m - ws.length) 0).length = m := by simp; omega
            have e2 : m + (rest.drop (m - ws.length)).length = ws.length + rest.length := by simp; omega
            rw [e, e2]; exact b3
          · rw [List.append_assoc]; exact q2.fr f3 hne.symm
          · intro y hy
            simp only [List.mem_append, List.mem_replicate] at hy
            rcases hy with (hy | hy) | hy
            · exact h.small y (List.mem_append_left _ hy)
            · rw [hy.2]; decide
            · exact h.small y (List.mem_append_right _ (List.mem_of_mem_drop hy))
          · exact (hlen' 0).trans (by omega)
          · have := h.cap; simp; omega
      · exact ⟨rfl, rfl, rfl, rfl, rfl, 0, rfl, by omega, f1, b1, by simpa using q1⟩
    · have hc2 := of_decide_eq_false hc2
      have e0 : m - ws.length = 0 := by omega
      refine F51_J1_spec b1 hi fun w3 b3 f3 hs3 => hk q rest w3 ?_ (f1.trans f3 fun _ h => .inl (.inl h)) (.inl rfl)
      have hml : m = ws.length := by omega
      rw [e0, List.replicate_zero, List.append_nil]
      exact ⟨hml ▸ b3, q1.fr f3 h.ne.symm, h.small, by rw [← hml]; have := hlen' 0; simp at this; omega, h.cap⟩
  · have hc := of_decide_eq_false hc
    simp only [NN_mk, LoadT_slice, add_mk, Nat.zero_add, h.c1, Option.some.injEq, Value.slice.injEq]
    refine ⟨_, _, _, ⟨rfl, rfl, rfl⟩, ?_⟩
    rw [decide_eq_true (by omega)]
    simp only [BIf_true]
    have e2 : mulI .i64 2 (m : Int) = ((2 * m : Nat) : Int) := by rw [mulI_i64 (by omega) (by omega)]; omega
    rw [e2]
    obtain ⟨ii, hi1, hi2, hi3, hi4⟩ := inf77
    refine make_intro (P := Go.Proofs.Tryd.prog) m (2 * m) und43 hi1 hi2 hi3 rfl (by omega) (by omega) (by omega) fun w1 f1 o1 bq hs1 => ?_
    have h1 := h.fr f1 id id
    simp only [NN_mk, LoadT_slice, add_mk, Nat.zero_add, h1.c1, Option.some.injEq, Value.slice.injEq]
    refine ⟨_, _, _, ⟨rfl, rfl, rfl⟩, ?_⟩
    have hrep : (List.replicate (2 * m) (Value.int .u64 0)) = us (List.replicate (2 * m) 0) := by rw [us_replicate]; rfl
    rw [hrep] at bq
    have hq' : ¬ w.heap.size = b := fun e => absurd h.head.lt (by omega)
    have hq2 : ¬ w.heap.size = q := fun e => absurd h.row.lt (by omega)
    have hcopy := fun f => @copy_intro Go.Proofs.Tryd.prog 61 61 3 65 [false, false].toArray f w1 w.heap.size 65 0 m (2 * m) ws.length (ws.length + rest.length) ⟨q, 0, none⟩ (us (List.replicate (2 * m) 0)) (us ws) und43 size77 bq (by simp; omega)
    refine hcopy _ ?_ (by simp; omega) us_oneCell fun w2 b2 f2 hs2 => ?_
    · intro j v hv
      rw [add_mk, Nat.zero_add, h1.row.cell, us_append, List.getElem?_append_left (List.getElem?_eq_some_iff.1 hv).1]; exact hv
    have h2 := h1.fr f2 (fun e => hq' e.symm) (fun e => hq2 e.symm)
    simp only [NN_mk, Store1_iff, oneC_slice, true_and, add_mk, Nat.zero_add]
    refine ⟨⟨_, h2.c1⟩, h2.head.frozen 1, ?_⟩
    have f3 : Fr (fun x => x = b) w2 (w2.setCell ⟨b, 1, none⟩ (.slice (some ⟨w.heap.size, 0, none⟩) m (2 * m))) := Fr.setCell _ _ _ rfl
    have b3 : Blk (w2.setCell ⟨b, 1, none⟩ (.slice (some ⟨w.heap.size, 0, none⟩) m (2 * m))) b 63 [.int .u64 n, .slice (some ⟨w.heap.size, 0, none⟩) m (2 * m)] := h2.head.set 1 _
    have q3 := b2.fr f3 hq'
    generalize w2.setCell ⟨b, 1, none⟩ (.slice (some ⟨w.heap.size, 0, none⟩) m (2 * m)) = w3 at *
    refine F51_J1_spec b3 hi fun w4 b4 f4 hs4 => hk w.heap.size (List.replicate m 0) w4 ⟨?_, ?_, ?_, ?_, ?_⟩ ?_ (.inr (Nat.le_refl _))
    · have e : (ws ++ List.replicate (m - ws.length) 0).length = m := by simp; omega
      rw [e, List.length_replicate, ← Nat.two_mul]; exact b4
    · have := q3.fr f4 hq'
      simp only [List.take_zero, List.nil_append, us_length, Nat.zero_add] at this
      rw [us_replicate, List.drop_replicate, ← us_replicate, ← us_append] at this
      have e : 2 * m - ws.length = (m - ws.length) + m := by omega
      rw [List.append_assoc, List.replicate_append_replicate, ← e]; exact this
    · intro y hy
      simp only [List.mem_append, List.mem_replicate] at hy
      rcases hy with (hy | hy) | hy
      · exact h.small y (List.mem_append_left _ hy)
      · rw [hy.2]; decide
      · rw [hy.2]; decide
    · exact (hlen' 0).trans (by omega)
    · simp; omega
    · refine (((f1.mono fun _ h => h.elim).trans f2 fun x e => .inr (by rw [e]; exact Nat.le_refl _)).trans f3 fun x e => .inl (.inl e)).trans f4 fun x e => .inl (.inl e)

theorem wbit_zeros {ws : List Nat} {d i : Nat} : wbit (ws ++ List.replicate d 0) i = wbit ws i := by
  unfold wbit
  simp only [List.getD_eq_getElem?_getD]
  by_cases h : i / 64 < ws.length
  · rw [List.getElem?_append_left h]
  · rw [List.getElem?_append_right (by omega), List.getElem?_eq_none (show ws.length ≤ i / 64 by omega), List.getElem?_replicate]
    split <;> simp
/-- Set, where the place is there. -/
theorem F30_J1_spec {b q n i : Nat} {ws rest : List Nat} {k : Value → W} {w : World} (h : BW w b q n ws rest) (hi : i < n) (hi2 : i < 1048576)
    (hk : ∀ ws' w', BW w' b q n ws' rest → (∀ j, wbit ws' j = (wbit ws j || decide (j = i))) → Fr (fun x => x = b ∨ x = q) w w' → k (.pointer (some ⟨b, 0, none⟩)) w') :
    F30_J1 k (some ⟨b, 0, none⟩) i w := by
  unfold F30_J1
  have hw : i / 64 < ws.length := by rw [h.len]; omega
  have h' : BW w.drew b q n ws rest := h.fr (Fr.drew (fun _ => False) w) id id
  have hp : (2 : Nat) ^ (i % 64) < 2 ^ 64 := Nat.pow_lt_pow_right (by decide) (by omega)
  have hor : ws.getD (i / 64) 0 ||| 2 ^ (i % 64) < 18446744073709551616 := Nat.or_lt_two_pow (n := 64) (h.word_lt _) hp
  simp only [Drw_iff, NN_mk, LoadT_slice, add_mk, Nat.zero_add, h'.c1, Option.some.injEq, Value.slice.injEq, shr6, Int.toNat_natCast]
  refine ⟨_, _, _, ⟨rfl, rfl, rfl⟩, ?_⟩
  simp only [NN_mk, Req_iff]
  refine ⟨⟨Int.natCast_nonneg _, Int.ofNat_lt.2 hw⟩, ?_⟩
  simp only [LoadT_int, add_mk, Nat.zero_add, h'.word hw, Option.some.injEq, Value.int.injEq, true_and, exists_eq_left']
  refine F52_call (F52_spec (by omega) (back_int ?_))
  simp only [Chk1_iff, add_mk, Nat.zero_add, h'.word hw, h'.c1, Req_iff, true_and, Int.toNat_natCast, Store1_iff, oneC_int]
  rw [shl1_nat (by omega), orI_nat (h.word_lt _) hp]
  refine ⟨Int.natCast_nonneg _, ⟨Int.natCast_nonneg _, Int.ofNat_lt.2 hw⟩, ⟨_, rfl⟩, h'.row.frozen _, ?_⟩
  exact hk _ _ (h'.store hw hor) (fun j => wbit_or hw) ((Fr.drew _ w).trans (Fr.setCell (S := fun x => x = b ∨ x = q) _ _ _ (.inr rfl)) fun _ h => .inl h)
/-- Set. -/
theorem F30_spec {b q n i : Nat} {f : Nat → Bool} {k : Value → W} {w : World} (h : BSet w b q n f) (hi : i < 1048576)
    (hk : ∀ q' w', BSet w' b q' (max n (i + 1)) (fun j => f j || decide (j = i)) → Fr (fun x => x = b ∨ x = q) w w' → (q' = q ∨ w.heap.size ≤ q') → k (.pointer (some ⟨b, 0, none⟩)) w') :
    F30 k (some ⟨b, 0, none⟩) i w := by
  obtain ⟨⟨ws, rest, hm, hf⟩, hl⟩ := h
  unfold F30
  simp only [NN_mk, LoadT_int, hm.c0, Option.some.injEq, Value.int.injEq, true_and, exists_eq_left']
  refine BIf_intro (fun hc => ?_) (fun hc => ?_)
  · have hc := of_decide_eq_true hc
    refine F51_call (F51_spec hm (by omega) hi fun q' rest' w1 h1 f1 hq => back0 ?_)
    have hne := h1.ne
    refine F30_J1_spec h1 (by omega) hi fun ws' w2 h2 hb f2 => hk q' w2 ⟨⟨ws', rest', ?_, fun j => ?_⟩, fun j hj => ?_⟩ (f1.trans f2 ?_) hq
    · rw [show max n (i + 1) = i + 1 by omega]; exact h2
    · rw [hb j, wbit_zeros, hf j]
    · simp only [Bool.or_eq_true, decide_eq_true_eq] at hj
      rcases hj with hj | hj
      · have := hl j hj; omega
      · omega
    · rintro x (rfl | rfl)
      · exact .inl (.inl rfl)
      · rcases hq with rfl | hq
        · exact .inl (.inr rfl)
        · exact .inr hq
  · have hc := of_decide_eq_false hc
    refine F30_J1_spec hm (by omega) hi fun ws' w2 h2 hb f2 => hk q w2 ⟨⟨ws', rest, ?_, fun j => ?_⟩, fun j hj => ?_⟩ f2 (.inl rfl)
    · rw [show max n (i + 1) = n by omega]; exact h2
    · rw [hb j, hf j]
    · simp only [Bool.or_eq_true, decide_eq_true_eq] at hj
      rcases hj with hj | hj
      · have := hl j hj; omega
      · omega
/-- New. -/
theorem F50_spec {n : Nat} {k : Value → W} {w : World} (hn : n < 1048576) (hk : ∀ b q w', BSet w' b q n (fun _ => false) → Fr (fun _ => False) w w' → w.heap.size ≤ b → w.heap.size ≤ q → k (.pointer (some ⟨b, 0, none⟩)) w') :
    F50 k ⟨w.heap.size, 0, none⟩ n (w.alloc (.cells #[.pointer none] 44)) := by
  have b0 : Blk (w.alloc (.cells #[.pointer none] 44)) w.heap.size 44 [.pointer none] := Blk.new _ _ _
  have f0 : Fr (fun _ => False) w (w.alloc (.cells #[.pointer none] 44)) := Fr.alloc _ _ _
  have hs0 : (w.alloc (.cells #[.pointer none] 44)).heap.size = w.heap.size + 1 := by simp
  generalize w.alloc (.cells #[.pointer none] 44) = w0 at *
  unfold F50
  refine F63_call (F63_spec (by omega) (back_int ?_))
  obtain ⟨ii, hi1, hi2, hi3, hi4⟩ := inf77
  refine make_intro (P := Go.Proofs.Tryd.prog) ((n + 63) / 64) ((n + 63) / 64) und43 hi1 hi2 hi3 rfl (by omega) (by omega) (by omega) fun w1 f1 o1 bq hs1 => ?_
  simp only [New_iff]
  have b1 := b0.fr f1 id
  generalize hv : ([.int .u64 n, .slice (some ⟨w0.heap.size, 0, none⟩) ((n + 63) / 64) ((n + 63) / 64)] : List Value) = vs
  have b2 : Blk (w1.alloc (.cells vs.toArray 63)) w.heap.size 44 [.pointer none] := b1.alloc _
  have q2 := bq.alloc (.cells vs.toArray 63)
  have s2 : Blk (w1.alloc (.cells vs.toArray 63)) w1.heap.size 63 vs := Blk.new' _ _ _
  have f2 : Fr (fun _ => False) w1 (w1.alloc (.cells vs.toArray 63)) := Fr.alloc _ _ _
  generalize w1.alloc (.cells vs.toArray 63) = w2 at *
  simp only [Store1_iff, oneC_ptr, true_and]
  refine ⟨⟨_, by rw [b2.cell]; rfl⟩, b2.frozen 0, ?_⟩
  have b3 := b2.set 0 (.pointer (some ⟨w1.heap.size, 0, none⟩))
  have hq : w0.heap.size ≠ w.heap.size := by omega
  have hb : w1.heap.size ≠ w.heap.size := by omega
  have q3 := q2.set_ne (a := ⟨w.heap.size, 0, none⟩) (.pointer (some ⟨w1.heap.size, 0, none⟩)) hq
  have s3 := s2.set_ne (a := ⟨w.heap.size, 0, none⟩) (.pointer (some ⟨w1.heap.size, 0, none⟩)) hb
  have f3 : Fr (fun x => x = w.heap.size) w2 (w2.setCell ⟨w.heap.size, 0, none⟩ (.pointer (some ⟨w1.heap.size, 0, none⟩))) := Fr.setCell _ _ _ rfl
  generalize w2.setCell ⟨w.heap.size, 0, none⟩ (.pointer (some ⟨w1.heap.size, 0, none⟩)) = w3 at *
  have c3 : w3.cell? ⟨w.heap.size, 0, none⟩ = some (.pointer (some ⟨w1.heap.size, 0, none⟩)) := by rw [b3.cell]; rfl
  simp only [LoadT_ptr, c3, Option.some.injEq, Value.pointer.injEq, exists_eq_left', Store1_iff, oneC_ptr, true_and]
  refine ⟨⟨_, rfl⟩, b3.frozen 0, ?_⟩
  have b4 := b3.set 0 (.pointer (some ⟨w1.heap.size, 0, none⟩))
  have q4 := q3.set_ne (a := ⟨w.heap.size, 0, none⟩) (.pointer (some ⟨w1.heap.size, 0, none⟩)) hq
  have s4 := s3.set_ne (a := ⟨w.heap.size, 0, none⟩) (.pointer (some ⟨w1.heap.size, 0, none⟩)) hb
  have f4 : Fr (fun x => x = w.heap.size) w3 (w3.setCell ⟨w.heap.size, 0, none⟩ (.pointer (some ⟨w1.heap.size, 0, none⟩))) := Fr.setCell _ _ _ rfl
  generalize w3.setCell ⟨w.heap.size, 0, none⟩ (.pointer (some ⟨w1.heap.size, 0, none⟩)) = w4 at *
  have c4 : w4.cell? ⟨w.heap.size, 0, none⟩ = some (.pointer (some ⟨w1.heap.size, 0, none⟩)) := by rw [b4.cell]; rfl
  simp only [c4, Option.some.injEq, Value.pointer.injEq, exists_eq_left']
  subst hv
  refine hk w1.heap.size w0.heap.size w4 ⟨⟨List.replicate ((n + 63) / 64) 0, [], ⟨?_, ?_, ?_, ?_, ?_⟩, fun i => ?_⟩, fun i h => ?_⟩ ?_ (by omega) (by omega)
  · simpa using s4
  · rw [List.append_nil, us_replicate]; exact q4
  · intro x hx
    simp only [List.append_nil, List.mem_replicate] at hx
    rw [hx.2]; decide
  · simp
  · simp; omega
  · have := @wbit_zeros [] ((n + 63) / 64) i
    rw [List.nil_append] at this
    rw [this]; simp [wbit]
  · cases h
  · exact (((f0.trans f1 fun _ h => h.elim).trans f2 fun _ h => h.elim).trans f3 fun x e => .inr (by omega)).trans f4 fun x e => .inr (by omega)
end Go.Proofs.YtopdlfecfgimpaaDoor.E
