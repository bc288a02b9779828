/-
  Clone, Union.
-/
import Derived.Test.YtopdlfecfgimpaaFnsD
import Derived.Test.YtopdlfecfgimpaaRanks
namespace Go.Proofs.Ytopdlfecfgimpaa.E
open Go
set_option linter.unusedSimpArgs false
set_option linter.unusedVariables false
set_option maxRecDepth 100000

/-- Clone. -/
theorem F94_spec {b q n : Nat} {ws rest : List Nat} {k : Value → W} {w : World} (hm : BW w b q n ws rest) (hn : n < 1048576)
    (hk : ∀ r qr rest' w', BW w' r qr n ws rest' → Fr (fun _ => False) w w' → w.heap.size ≤ r → w.heap.size ≤ qr → k (.pointer (some ⟨r, 0, none⟩)) w') : F94 k (some ⟨b, 0, none⟩) w := by
  have hlen := hm.len
  unfold F94
  simp only [NN_mk, LoadT_int, hm.c0, Option.some.injEq, Value.int.injEq, true_and, exists_eq_left']
  refine F59_call (F59_spec hn fun r qr w1 hr f1 zr zq => back_ptr ?_)
  have hm1 := hm.fr f1 id id
  simp only [NN_mk, LoadT_slice, add_mk, Nat.zero_add, hm1.c1, Option.some.injEq, Value.slice.injEq]
  refine ⟨_, _, _, ⟨rfl, rfl, rfl⟩, ?_⟩
  simp only [Option.isNone_some, Bool.not_false, BIf_true]
  obtain ⟨⟨us0, rest0, hr0, _⟩, _⟩ := hr
  have hlen0 := hr0.len
  refine drw_intro fun w2 f2 z2 => ?_
  have hm2 := hm1.fr f2 id id
  have hr2 := hr0.fr f2 id id
  simp only [NN_mk, LoadT_slice, add_mk, Nat.zero_add, hr2.c1, hm2.c1, Option.some.injEq, Value.slice.injEq]
  refine ⟨_, _, _, ⟨rfl, rfl, rfl⟩, _, _, _, ⟨rfl, rfl, rfl⟩, ?_⟩
  have hle : us0.length = ws.length := by omega
  have hrow := hr2.row
  refine copy_intro (P := Go.Proofs.Try.prog) und43 size77 hrow (src := us ws) (by rw [us_length, hle]; exact (Nat.min_self _).symm) ?_ (by simp; omega) us_oneCell fun w3 b3 f3 z3 => ?_
  · intro j v hj
    have hjl : j < ws.length := by have := (List.getElem?_eq_some_iff.1 hj).1; simpa using this
    rw [add_mk, Nat.zero_add, hm2.word hjl, ← us_get _ _ hjl]; exact hj
  rw [us_append, List.take_zero, List.nil_append, Nat.zero_add, us_length, List.drop_left' (by simp [hle]), ← us_append] at b3
  refine hk r qr rest0 w3 ⟨?_, b3, fun x hx => ?_, by rw [← hle]; exact hlen0, by rw [← hle]; exact hr0.cap⟩ ((f1.trans f2 fun _ h => h.elim).trans f3 fun x e => .inr (by have : x = qr := e; omega)) zr zq
  · rw [← hle]; exact hr2.head.fr f3 hr2.ne
  · rcases List.mem_append.1 hx with hx | hx
    · exact hm.small x (List.mem_append_left _ hx)
    · exact hr0.small x (List.mem_append_right _ hx)

/-- Union, sorted: c is not shorter than b. -/
theorem F62_main {b qb n c qc m : Nat} {f g : Nat → Bool} {k : Value → W} {w : World} (hb : BSet w b qb n f) (hc : BSet w c qc m g) (hnm : n ≤ m) (hm' : m < 1048576)
    (hk : ∀ r qr w', BSet w' r qr m (fun j => f j || g j) → Fr (fun _ => False) w w' → w.heap.size ≤ r → w.heap.size ≤ qr → k (.pointer (some ⟨r, 0, none⟩)) w') :
    (CallT Go.Proofs.Try.prog 94 [.pointer (some ⟨c, 0, none⟩)] (.s (.one .ptr)) fun p5 =>
     NN (some ⟨b, 0, none⟩) fun a6 =>
     LoadT .slice (a6.add 1) fun s7p s7l s7c =>
     Loop [.ptr, .ptr, .slice, (.int .i64), (.int .i64)] (F62_L1 k) (some ⟨c, 0, none⟩) p5 s7p s7l s7c ((s7l : Nat) : Int) 0) w := by
  obtain ⟨⟨ws, rest, hm, hf⟩, hl⟩ := hb
  obtain ⟨⟨vs, rest', hv, hg⟩, hl'⟩ := hc
  have hlen := hm.len
  have hlen' := hv.len
  refine F94_call (F94_spec hv hm' fun r qr rest0 w1 hr0 f1 zr zq => back_ptr ?_)
  have hm1 := hm.fr f1 id id
  simp only [NN_mk, LoadT_slice, add_mk, Nat.zero_add, hm1.c1, Option.some.injEq, Value.slice.injEq]
  refine ⟨_, _, _, ⟨rfl, rfl, rfl⟩, ?_⟩
  refine F62_L1_rule (fun c' r' sp sl sc x13 x14 w2 => c' = some ⟨c, 0, none⟩ ∧ r' = some ⟨r, 0, none⟩ ∧ sp = some ⟨qb, 0, none⟩ ∧ sl = ws.length ∧ x13 = ((ws.length : Nat) : Int) ∧
      ∃ (i : Nat) (rs : List Nat), x14 = i ∧ i ≤ ws.length ∧ BW w2 r qr m rs rest0 ∧ (∀ j, rs.getD j 0 = if j < i then ws.getD j 0 ||| vs.getD j 0 else vs.getD j 0) ∧ Fr (fun _ => False) w w2)
    (fun _ _ _ _ _ _ x14 _ => ws.length - x14.toNat) ?_ ⟨rfl, rfl, rfl, rfl, rfl, 0, vs, rfl, Nat.zero_le _, hr0, fun j => by simp, f1⟩
  rintro c' r' sp sl sc x13 x14 w2 ⟨rfl, rfl, rfl, rfl, rfl, i, rs, rfl, hi, h2, hrs, f2⟩
  have hrl : rs.length = vs.length := by rw [h2.len, hlen']
  unfold F62_L1
  refine BIf_intro (fun h => ?_) (fun h => ?_)
  · have h := of_decide_eq_true h
    have hi' : i < ws.length := by omega
    have hm2 := hm.fr f2 id id
    simp only [NN_mk, Req_iff, Int.toNat_natCast, add_mk, Nat.zero_add, LoadT_int, hm2.word hi', Option.some.injEq, Value.int.injEq, true_and, exists_eq_left']
    refine ⟨⟨by omega, by omega⟩, ?_⟩
    refine drw_intro fun w3 f3 z3 => ?_
    have hm3 := hm2.fr f3 id id
    have hv3 := (hv.fr f2 id id).fr f3 id id
    have h3 := h2.fr f3 id id
    simp only [NN_mk, LoadT_slice, add_mk, Nat.zero_add, h3.c1, hv3.c1, Option.some.injEq, Value.slice.injEq]
    refine ⟨_, _, _, ⟨rfl, rfl, rfl⟩, _, _, _, ⟨rfl, rfl, rfl⟩, ?_⟩
    have hiv : i < vs.length := by omega
    simp only [NN_mk, Req_iff, Int.toNat_natCast, add_mk, Nat.zero_add, LoadT_int, hv3.word hiv, Option.some.injEq, Value.int.injEq, true_and, exists_eq_left', Store1_iff, oneC_int]
    rw [orI_nat (hm3.word_lt _) (hv3.word_lt _)]
    refine ⟨⟨by omega, by omega⟩, ⟨by omega, by omega⟩, ⟨_, h3.word (by omega)⟩, h3.row.frozen _, ?_⟩
    have ei : addI .i64 (i : Int) 1 = ((i + 1 : Nat) : Int) := by rw [addI_i64 (by omega) (by omega)]; omega
    rw [ei]
    refine ⟨⟨i + 1, rs.set i (ws.getD i 0 ||| vs.getD i 0), rfl, by omega, h3.store (by omega) (Nat.or_lt_two_pow (n := 64) (hm3.word_lt _) (hv3.word_lt _)), fun j => ?_, (f2.trans f3 fun _ h => h.elim).trans (Fr.setCell (S := fun x => x = qr) _ _ _ rfl) fun x e => .inr (by have : x = qr := e; have := f1.size; omega)⟩, by omega⟩
    rw [getD_set (by omega)]
    by_cases e : j = i
    · rw [if_pos e, e, if_pos (by omega)]
    · rw [if_neg e, hrs j]
      by_cases e2 : j < i
      · rw [if_pos e2, if_pos (by omega)]
      · rw [if_neg e2, if_neg (by omega)]
  · have h := of_decide_eq_false h
    have : i = ws.length := by omega
    subst this
    refine hk r qr w2 ⟨⟨rs, rest0, h2, fun j => ?_⟩, fun j hj => ?_⟩ f2 zr zq
    · rw [← hf j, ← hg j]
      by_cases e : j / 64 < ws.length
      · unfold wbit
        rw [hrs _, if_pos e, Nat.testBit_or]
      · rw [wbit_ge (ws := ws) (by omega), Bool.false_or]
        unfold wbit
        rw [hrs _, if_neg e]
    · simp only [Bool.or_eq_true] at hj
      rcases hj with hj | hj
      · have := hl j hj; omega
      · exact hl' j hj
/-- Union. -/
theorem F62_spec {b qb n c qc m : Nat} {f g : Nat → Bool} {k : Value → W} {w : World} (hb : BSet w b qb n f) (hc : BSet w c qc m g) (hn : n < 1048576) (hm : m < 1048576)
    (hk : ∀ r qr w', BSet w' r qr (max n m) (fun j => f j || g j) → Fr (fun _ => False) w w' → w.heap.size ≤ r → w.heap.size ≤ qr → k (.pointer (some ⟨r, 0, none⟩)) w') :
    F62 k (some ⟨b, 0, none⟩) (some ⟨c, 0, none⟩) w := by
  unfold F62
  refine F89_call (F89_spec (back0 ?_))
  refine F89_call (F89_spec (back0 ?_))
  refine F90_call (F90_spec hb hc fun w1 f1 => ⟨fun h => back_ptr2 ?_, fun h => back_ptr2 ?_⟩)
  · refine F62_main (hb.fr f1 id id) (hc.fr f1 id id) h hm fun r qr w2 h2 f2 z1 z2 => hk r qr w2 ?_ (f1.trans f2 fun _ h => h.elim) (Nat.le_trans f1.size z1) (Nat.le_trans f1.size z2)
    rw [Nat.max_eq_right h]; exact h2
  · refine F62_main (hc.fr f1 id id) (hb.fr f1 id id) (Nat.le_of_lt h) hn fun r qr w2 h2 f2 z1 z2 => hk r qr w2 ?_ (f1.trans f2 fun _ h => h.elim) (Nat.le_trans f1.size z1) (Nat.le_trans f1.size z2)
    rw [Nat.max_eq_left (Nat.le_of_lt h)]
    have e : (fun j => g j || f j) = fun j => f j || g j := by funext j; exact Bool.or_comm _ _
    rw [← e]; exact h2
end Go.Proofs.Ytopdlfecfgimpaa.E
