/-
  The four cardinalities. Printed by this session's own program diff.py.
-/
import Derived.Test.YtopdlfecfgimpaaPop2
namespace Go.Proofs.Ytopdlfecfgimpaa.E
open Go
set_option linter.unusedSimpArgs false
set_option linter.unusedVariables false
set_option maxRecDepth 100000

theorem cnt_more {n m : Nat} {f : Nat → Bool} (h : n ≤ m) (hf : ∀ j, f j = true → j < n) : cnt m f = cnt n f := by
  obtain ⟨d, rfl⟩ := Nat.exists_eq_add_of_le h
  rw [cnt_add, cnt_zero (n := d), Nat.add_zero]
  intro i _
  cases hb : f (n + i) with
  | false => rfl
  | true => have := hf _ hb; omega
theorem sliceA_zero {q c : Nat} : sliceA (some ⟨q, 0, none⟩) 0 c 1 = some ⟨q, 0, none⟩ := by unfold sliceA; split <;> simp [add_mk]
theorem F96_tail {c qc m l : Nat} {vs rest' : List Nat} {g : Int → W} {w : World} (hv : BW w c qc m vs rest') (hl : l ≤ vs.length) (hm : m < 16777216)
    (hk : g ((cnt (64 * (vs.length - l)) (fun i => wbit vs (64 * l + i)) : Nat) : Int) w) :
    CallT Go.Proofs.Try.prog 96 [.slice (sliceA (some ⟨qc, 0, none⟩) l (vs.length + rest'.length) 1) (vs.length - l) (vs.length + rest'.length - l)] (.s (.one (.int .u64))) g w := by
  have hlv := hv.len
  have hlen : vs.length - l = (vs.drop l).length := by simp
  have hsee : Sees w (sliceA (some ⟨qc, 0, none⟩) l (vs.length + rest'.length) 1) (vs.drop l) := by
    rcases Nat.eq_zero_or_pos (vs.length - l) with h0 | h0
    · exact .inl (List.drop_eq_nil_of_le (by omega))
    · have e : sliceA (some ⟨qc, 0, none⟩) l (vs.length + rest'.length) 1 = some ⟨qc, l, none⟩ := by
        unfold sliceA; rw [if_neg (by omega)]; simp [add_mk]
      rw [e]
      refine .inr ⟨_, rfl, hv.row.lt, fun j hj => ?_⟩
      rw [add_mk, hv.word (by simp at hj; omega)]
      simp only [List.getD_eq_getElem?_getD, List.getElem?_drop]
  have e : (fun i => wbit vs (64 * l + i)) = wbit (vs.drop l) := by funext i; exact wbit_drop.symm
  rw [e] at hk
  rw [hlen] at hk ⊢
  refine F96_call (F96_spec hsee (fun j => ?_) (by simp; omega) (back_int hk))
  have := hv.word_lt (l + j)
  simpa only [List.getD_eq_getElem?_getD, List.getElem?_drop] using this

/-- The last part of DifferenceCardinality. -/
theorem F65_J2_spec {b qb n l x : Nat} {ws rest : List Nat} {k : Value → W} {w : World} (hm : BW w b qb n ws rest) (hl : l ≤ ws.length) (hn : n < 16777216) (hx : x ≤ 16777280)
    (hk : k (.int .u64 ((x + cnt (64 * (ws.length - l)) (fun i => wbit ws (64 * l + i)) : Nat) : Int)) w) : F65_J2 k (some ⟨b, 0, none⟩) l x w := by
  have hlv := hm.len
  unfold F65_J2
  simp only [NN_mk, LoadT_slice, add_mk, Nat.zero_add, hm.c1, Option.some.injEq, Value.slice.injEq]
  refine ⟨_, _, _, ⟨rfl, rfl, rfl⟩, ?_⟩
  refine ⟨⟨by omega, by omega⟩, ?_⟩
  simp only [Int.toNat_natCast]
  refine F96_tail hm hl hn ?_
  have hc := cnt_le (64 * (ws.length - l)) (fun i => wbit ws (64 * l + i))
  rw [addI_nat (by omega)]
  exact hk
theorem F65_J1_spec {b qb n c qc m l : Nat} {ws rest vs rest' : List Nat} {f g : Nat → Bool} {k : Value → W} {w : World} (hw : BW w b qb n ws rest) (hv : BW w c qc m vs rest') (hl : l = min ws.length vs.length)
    (hf : ∀ j, wbit ws j = f j) (hg : ∀ j, wbit vs j = g j) (hfn : ∀ j, f j = true → j < n) (hn : n < 16777216) (hm : m < 16777216)
    (hk : ∀ w', Fr (fun _ => False) w w' → k (.int .u64 (cnt n (fun j => f j && !g j) : Nat)) w') : F65_J1 k (some ⟨b, 0, none⟩) (some ⟨c, 0, none⟩) l w := by
  have hlv := hw.len
  have hlv' := hv.len
  have e : cnt (64 * l) (fun t => wbit ws t && !wbit vs t) + cnt (64 * (ws.length - l)) (fun i => wbit ws (64 * l + i)) = cnt n (fun j => f j && !g j) := by
    have h1 : cnt (64 * ws.length) (fun t => wbit ws t && !wbit vs t) = cnt n (fun j => f j && !g j) := by
      rw [cnt_more (n := n) (by omega) (fun j hj => by rw [hf j] at hj; exact hfn j (Bool.and_eq_true _ _ ▸ hj).1)]
      exact cnt_congr fun i _ => by rw [hf, hg]
    rw [← h1, show 64 * ws.length = 64 * l + 64 * (ws.length - l) by omega, cnt_add]
    congr 1
    apply cnt_congr
    intro i hi
    have : wbit vs (64 * l + i) = false := wbit_ge (by omega)
    rw [this]; simp
  unfold F65_J1
  have hcapw := hw.cap
  refine BIf_intro (fun h => ?_) (fun h => ?_)
  · have h := of_decide_eq_true h
    refine drw_intro fun w1 f1 z1 => ?_
    have hw1 := hw.fr f1 id id
    have hv1 := hv.fr f1 id id
    simp only [NN_mk, LoadT_slice, Req_iff, add_mk, Nat.zero_add, hw1.c1, hv1.c1, Option.some.injEq, Value.slice.injEq]
    refine ⟨_, _, _, ⟨rfl, rfl, rfl⟩, ⟨by omega, by omega⟩, _, _, _, ⟨rfl, rfl, rfl⟩, ⟨by omega, by omega⟩, ?_⟩
    simp only [sliceA_zero, Int.toNat_natCast, Nat.sub_zero]
    have hc := cnt_le (64 * l) (fun t => wbit ws t && !wbit vs t)
    refine F97_call (F97_spec hw1.rw hv1.rw hw.word_lt hv.word_lt (by omega) (by omega) (Nat.le_refl _) (by omega) (by omega) fun w2 f2 => back_int ?_)
    have hw2 := hw1.fr f2 id id
    have hv2 := hv1.fr f2 id id
    refine Chk1_iff.2 ⟨hv2.c1, Chk1_iff.2 ⟨hw2.c1, ?_⟩⟩
    rw [show addI .u64 0 ((cnt (64 * l) (fun t => wbit ws t && !wbit vs t) : Nat) : Int) = ((cnt (64 * l) (fun t => wbit ws t && !wbit vs t) : Nat) : Int) by rw [addI_u64 (by omega) (by omega)]; omega]
    refine F65_J2_spec hw2 (by omega) hn (by omega) ?_
    rw [e]
    exact hk _ (f1.trans f2 fun _ h => h.elim)
  · have h := of_decide_eq_false h
    have h0 : l = 0 := by omega
    subst h0
    refine F65_J2_spec (x := 0) hw (Nat.zero_le _) hn (by omega) ?_
    have e2 : cnt (64 * 0) (fun t => wbit ws t && !wbit vs t) = 0 := rfl
    rw [e2] at e
    rw [e]
    exact hk _ (Fr.refl _ _)
/-- DifferenceCardinality. -/
theorem F65_spec {b qb n c qc m : Nat} {f g : Nat → Bool} {k : Value → W} {w : World} (hb : BSet w b qb n f) (hc : BSet w c qc m g) (hn : n < 16777216) (hm : m < 16777216)
    (hk : ∀ w', Fr (fun _ => False) w w' → k (.int .u64 (cnt n (fun j => f j && !g j) : Nat)) w') : F65 k (some ⟨b, 0, none⟩) (some ⟨c, 0, none⟩) w := by
  obtain ⟨⟨ws, rest, hw, hf⟩, hl⟩ := hb
  obtain ⟨⟨vs, rest', hv, hg⟩, hl'⟩ := hc
  unfold F65
  refine F89_call (F89_spec (back0 ?_))
  refine F89_call (F89_spec (back0 ?_))
  refine F95_call (F95_spec hv hm (back_int ?_))
  refine F95_call (F95_spec hw hn (back_int ?_))
  refine BIf_intro (fun h => ?_) (fun h => ?_)
  · have h := of_decide_eq_true h
    refine F95_call (F95_spec hw hn (back_int ?_))
    exact F65_J1_spec hw hv (by omega) hf hg hl hn hm hk
  · have h := of_decide_eq_false h
    exact F65_J1_spec hw hv (by omega) hf hg hl hn hm hk

theorem F66_main {b qb n c qc m : Nat} {f g : Nat → Bool} {k : Value → W} {w : World} (hb : BSet w b qb n f) (hc : BSet w c qc m g) (hnm : n ≤ m) (hm : m < 8388608)
    (hk : ∀ w', Fr (fun _ => False) w w' → k (.int .u64 (cnt m (fun j => f j || g j) : Nat)) w') : (
    NN (some ⟨b, 0, none⟩) fun a5 =>
    LoadT .slice (a5.add 1) fun s6p s6l s6c =>
    BIf (decide (((s6l : Nat) : Int) > 0)) (
     Drw <|
     NN (some ⟨b, 0, none⟩) fun a7 =>
     LoadT .slice (a7.add 1) fun s8p s8l s8c =>
     NN (some ⟨c, 0, none⟩) fun a9 =>
     LoadT .slice (a9.add 1) fun s10p s10l s10c =>
     CallT Go.Proofs.Try.prog 98 [.slice s8p s8l s8c, .slice s10p s10l s10c] (.s (.one (.int .u64))) fun x11 =>
     F66_J1 k (some ⟨b, 0, none⟩) (some ⟨c, 0, none⟩) (addI .u64 0 x11)) (
     F66_J1 k (some ⟨b, 0, none⟩) (some ⟨c, 0, none⟩) 0)) w := by
  obtain ⟨⟨ws, rest, hw, hf⟩, hfl⟩ := hb
  obtain ⟨⟨vs, rest', hv, hg⟩, hgl⟩ := hc
  have hlv := hw.len
  have hlv' := hv.len
  have e : cnt (64 * ws.length) (fun t => wbit ws t || wbit vs t) + cnt (64 * (vs.length - ws.length)) (fun i => wbit vs (64 * ws.length + i)) = cnt m (fun j => f j || g j) := by
    have h1 : cnt (64 * vs.length) (fun t => wbit ws t || wbit vs t) = cnt m (fun j => f j || g j) := by
      rw [cnt_more (n := m) (by omega) (fun j hj => by
        rw [hf j, hg j] at hj
        cases h1 : f j with
        | true => have := hfl j h1; omega
        | false => rw [h1] at hj; exact hgl j (by simpa using hj))]
      exact cnt_congr fun i _ => by rw [hf, hg]
    rw [← h1, show 64 * vs.length = 64 * ws.length + 64 * (vs.length - ws.length) by omega, cnt_add]
    congr 1
    apply cnt_congr
    intro i hi
    have : wbit ws (64 * ws.length + i) = false := wbit_ge (by omega)
    rw [this]; simp
  have J : ∀ (x : Nat) w1, Fr (fun _ => False) w w1 → x ≤ 16777280 → k (.int .u64 (x + cnt (64 * (vs.length - ws.length)) (fun i => wbit vs (64 * ws.length + i)) : Nat)) = k (.int .u64 (cnt m (fun j => f j || g j) : Nat)) →
      F66_J1 k (some ⟨b, 0, none⟩) (some ⟨c, 0, none⟩) x w1 := by
    intro x w1 f1 hx hkx
    unfold F66_J1
    refine drw_intro fun w2 f2 z2 => ?_
    have f12 := f1.trans f2 fun _ h => h.elim
    have hw2 := hw.fr f12 id id
    have hv2 := hv.fr f12 id id
    simp only [NN_mk, LoadT_slice, add_mk, Nat.zero_add, hw2.c1, hv2.c1, Option.some.injEq, Value.slice.injEq]
    refine ⟨_, _, _, ⟨rfl, rfl, rfl⟩, _, _, _, ⟨rfl, rfl, rfl⟩, ?_⟩
    refine BIf_intro (fun h => ?_) (fun h => ?_)
    · have h := of_decide_eq_true h
      refine drw_intro fun w3 f3 z3 => ?_
      have f13 := f12.trans f3 fun _ h => h.elim
      have hw3 := hw.fr f13 id id
      have hv3 := hv.fr f13 id id
      simp only [NN_mk, LoadT_slice, Req_iff, add_mk, Nat.zero_add, hw3.c1, hv3.c1, Option.some.injEq, Value.slice.injEq]
      refine ⟨_, _, _, ⟨rfl, rfl, rfl⟩, _, _, _, ⟨rfl, rfl, rfl⟩, ⟨by omega, by omega⟩, ?_⟩
      simp only [Int.toNat_natCast]
      refine F96_tail hv3 (by omega) (by omega) ?_
      refine Chk1_iff.2 ⟨hw3.c1, Chk1_iff.2 ⟨hv3.c1, ?_⟩⟩
      have hc := cnt_le (64 * (vs.length - ws.length)) (fun i => wbit vs (64 * ws.length + i))
      rw [addI_nat (by omega), hkx]
      exact hk _ f13
    · have h := of_decide_eq_false h
      have h0 : 64 * (vs.length - ws.length) = 0 := by omega
      rw [h0] at hkx
      have e2 : x + cnt 0 (fun i => wbit vs (64 * ws.length + i)) = x := rfl
      rw [e2] at hkx
      rw [hkx]
      exact hk _ f12
  simp only [NN_mk, LoadT_slice, add_mk, Nat.zero_add, hw.c1, Option.some.injEq, Value.slice.injEq]
  refine ⟨_, _, _, ⟨rfl, rfl, rfl⟩, ?_⟩
  refine BIf_intro (fun h => ?_) (fun h => ?_)
  · have h := of_decide_eq_true h
    refine drw_intro fun w1 f1 z1 => ?_
    have hw1 := hw.fr f1 id id
    have hv1 := hv.fr f1 id id
    simp only [NN_mk, LoadT_slice, Req_iff, add_mk, Nat.zero_add, hw1.c1, hv1.c1, Option.some.injEq, Value.slice.injEq]
    refine ⟨_, _, _, ⟨rfl, rfl, rfl⟩, _, _, _, ⟨rfl, rfl, rfl⟩, ?_⟩
    have hc := cnt_le (64 * ws.length) (fun t => wbit ws t || wbit vs t)
    refine F98_call (F98_spec hw1.rw hv1.rw hw.word_lt hv.word_lt (Nat.le_refl _) (by omega) (by omega) (by omega) (by omega) fun w2 f2 => back_int ?_)
    rw [show addI .u64 0 ((cnt (64 * ws.length) (fun t => wbit ws t || wbit vs t) : Nat) : Int) = ((cnt (64 * ws.length) (fun t => wbit ws t || wbit vs t) : Nat) : Int) by rw [addI_u64 (by omega) (by omega)]; omega]
    exact J _ _ (f1.trans f2 fun _ h => h.elim) (by omega) (by rw [e])
  · have h := of_decide_eq_false h
    have h0 : 64 * ws.length = 0 := by omega
    rw [h0] at e
    have e2 : cnt 0 (fun t => wbit ws t || wbit vs t) = 0 := rfl
    rw [e2] at e
    refine J 0 _ (Fr.refl _ _) (by omega) ?_
    rw [← e, h0]
/-- UnionCardinality. -/
theorem F66_spec {b qb n c qc m : Nat} {f g : Nat → Bool} {k : Value → W} {w : World} (hb : BSet w b qb n f) (hc : BSet w c qc m g) (hn : n < 8388608) (hm : m < 8388608)
    (hk : ∀ w', Fr (fun _ => False) w w' → k (.int .u64 (cnt (max n m) (fun j => f j || g j) : Nat)) w') : F66 k (some ⟨b, 0, none⟩) (some ⟨c, 0, none⟩) w := by
  unfold F66
  refine F89_call (F89_spec (back0 ?_))
  refine F89_call (F89_spec (back0 ?_))
  refine F90_call (F90_spec hb hc fun w1 f1 => ⟨fun h => back_ptr2 ?_, fun h => back_ptr2 ?_⟩)
  · refine F66_main (hb.fr f1 id id) (hc.fr f1 id id) h hm fun w2 f2 => ?_
    rw [Nat.max_eq_right h] at hk
    exact hk _ (f1.trans f2 fun _ h => h.elim)
  · refine F66_main (hc.fr f1 id id) (hb.fr f1 id id) (Nat.le_of_lt h) hn fun w2 f2 => ?_
    rw [Nat.max_eq_left (Nat.le_of_lt h)] at hk
    have e : (fun j => g j || f j) = fun j => f j || g j := by funext j; cases f j <;> cases g j <;> rfl
    rw [e]
    exact hk _ (f1.trans f2 fun _ h => h.elim)

theorem F69_main {b qb n c qc m : Nat} {f g : Nat → Bool} {k : Value → W} {w : World} (hb : BSet w b qb n f) (hc : BSet w c qc m g) (hnm : n ≤ m) (hm : m < 8388608)
    (hk : ∀ w', Fr (fun _ => False) w w' → k (.int .u64 (cnt m (fun j => f j ^^ g j) : Nat)) w') : (
    NN (some ⟨b, 0, none⟩) fun a5 =>
    LoadT .slice (a5.add 1) fun s6p s6l s6c =>
    BIf (decide (((s6l : Nat) : Int) > 0)) (
     Drw <|
     NN (some ⟨b, 0, none⟩) fun a7 =>
     LoadT .slice (a7.add 1) fun s8p s8l s8c =>
     NN (some ⟨c, 0, none⟩) fun a9 =>
     LoadT .slice (a9.add 1) fun s10p s10l s10c =>
     CallT Go.Proofs.Try.prog 100 [.slice s8p s8l s8c, .slice s10p s10l s10c] (.s (.one (.int .u64))) fun x11 =>
     F69_J1 k (some ⟨b, 0, none⟩) (some ⟨c, 0, none⟩) (addI .u64 0 x11)) (
     F69_J1 k (some ⟨b, 0, none⟩) (some ⟨c, 0, none⟩) 0)) w := by
  obtain ⟨⟨ws, rest, hw, hf⟩, hfl⟩ := hb
  obtain ⟨⟨vs, rest', hv, hg⟩, hgl⟩ := hc
  have hlv := hw.len
  have hlv' := hv.len
  have e : cnt (64 * ws.length) (fun t => wbit ws t ^^ wbit vs t) + cnt (64 * (vs.length - ws.length)) (fun i => wbit vs (64 * ws.length + i)) = cnt m (fun j => f j ^^ g j) := by
    have h1 : cnt (64 * vs.length) (fun t => wbit ws t ^^ wbit vs t) = cnt m (fun j => f j ^^ g j) := by
      rw [cnt_more (n := m) (by omega) (fun j hj => by
        rw [hf j, hg j] at hj
        cases h1 : f j with
        | true => have := hfl j h1; omega
        | false => rw [h1] at hj; exact hgl j (by simpa using hj))]
      exact cnt_congr fun i _ => by rw [hf, hg]
    rw [← h1, show 64 * vs.length = 64 * ws.length + 64 * (vs.length - ws.length) by omega, cnt_add]
    congr 1
    apply cnt_congr
    intro i hi
    have : wbit ws (64 * ws.length + i) = false := wbit_ge (by omega)
    rw [this]; simp
  have J : ∀ (x : Nat) w1, Fr (fun _ => False) w w1 → x ≤ 16777280 → k (.int .u64 (x + cnt (64 * (vs.length - ws.length)) (fun i => wbit vs (64 * ws.length + i)) : Nat)) = k (.int .u64 (cnt m (fun j => f j ^^ g j) : Nat)) →
      F69_J1 k (some ⟨b, 0, none⟩) (some ⟨c, 0, none⟩) x w1 := by
    intro x w1 f1 hx hkx
    unfold F69_J1
    refine drw_intro fun w2 f2 z2 => ?_
    have f12 := f1.trans f2 fun _ h => h.elim
    have hw2 := hw.fr f12 id id
    have hv2 := hv.fr f12 id id
    simp only [NN_mk, LoadT_slice, add_mk, Nat.zero_add, hw2.c1, hv2.c1, Option.some.injEq, Value.slice.injEq]
    refine ⟨_, _, _, ⟨rfl, rfl, rfl⟩, _, _, _, ⟨rfl, rfl, rfl⟩, ?_⟩
    refine BIf_intro (fun h => ?_) (fun h => ?_)
    · have h := of_decide_eq_true h
      refine drw_intro fun w3 f3 z3 => ?_
      have f13 := f12.trans f3 fun _ h => h.elim
      have hw3 := hw.fr f13 id id
      have hv3 := hv.fr f13 id id
      simp only [NN_mk, LoadT_slice, Req_iff, add_mk, Nat.zero_add, hw3.c1, hv3.c1, Option.some.injEq, Value.slice.injEq]
      refine ⟨_, _, _, ⟨rfl, rfl, rfl⟩, _, _, _, ⟨rfl, rfl, rfl⟩, ⟨by omega, by omega⟩, ?_⟩
      simp only [Int.toNat_natCast]
      refine F96_tail hv3 (by omega) (by omega) ?_
      refine Chk1_iff.2 ⟨hw3.c1, Chk1_iff.2 ⟨hv3.c1, ?_⟩⟩
      have hc := cnt_le (64 * (vs.length - ws.length)) (fun i => wbit vs (64 * ws.length + i))
      rw [addI_nat (by omega), hkx]
      exact hk _ f13
    · have h := of_decide_eq_false h
      have h0 : 64 * (vs.length - ws.length) = 0 := by omega
      rw [h0] at hkx
      have e2 : x + cnt 0 (fun i => wbit vs (64 * ws.length + i)) = x := rfl
      rw [e2] at hkx
      rw [hkx]
      exact hk _ f12
  simp only [NN_mk, LoadT_slice, add_mk, Nat.zero_add, hw.c1, Option.some.injEq, Value.slice.injEq]
  refine ⟨_, _, _, ⟨rfl, rfl, rfl⟩, ?_⟩
  refine BIf_intro (fun h => ?_) (fun h => ?_)
  · have h := of_decide_eq_true h
    refine drw_intro fun w1 f1 z1 => ?_
    have hw1 := hw.fr f1 id id
    have hv1 := hv.fr f1 id id
    simp only [NN_mk, LoadT_slice, Req_iff, add_mk, Nat.zero_add, hw1.c1, hv1.c1, Option.some.injEq, Value.slice.injEq]
    refine ⟨_, _, _, ⟨rfl, rfl, rfl⟩, _, _, _, ⟨rfl, rfl, rfl⟩, ?_⟩
    have hc := cnt_le (64 * ws.length) (fun t => wbit ws t ^^ wbit vs t)
    refine F100_call (F100_spec hw1.rw hv1.rw hw.word_lt hv.word_lt (Nat.le_refl _) (by omega) (by omega) (by omega) (by omega) fun w2 f2 => back_int ?_)
    rw [show addI .u64 0 ((cnt (64 * ws.length) (fun t => wbit ws t ^^ wbit vs t) : Nat) : Int) = ((cnt (64 * ws.length) (fun t => wbit ws t ^^ wbit vs t) : Nat) : Int) by rw [addI_u64 (by omega) (by omega)]; omega]
    exact J _ _ (f1.trans f2 fun _ h => h.elim) (by omega) (by rw [e])
  · have h := of_decide_eq_false h
    have h0 : 64 * ws.length = 0 := by omega
    rw [h0] at e
    have e2 : cnt 0 (fun t => wbit ws t ^^ wbit vs t) = 0 := rfl
    rw [e2] at e
    refine J 0 _ (Fr.refl _ _) (by omega) ?_
    rw [← e, h0]
/-- SymmetricDifferenceCardinality. -/
theorem F69_spec {b qb n c qc m : Nat} {f g : Nat → Bool} {k : Value → W} {w : World} (hb : BSet w b qb n f) (hc : BSet w c qc m g) (hn : n < 8388608) (hm : m < 8388608)
    (hk : ∀ w', Fr (fun _ => False) w w' → k (.int .u64 (cnt (max n m) (fun j => f j ^^ g j) : Nat)) w') : F69 k (some ⟨b, 0, none⟩) (some ⟨c, 0, none⟩) w := by
  unfold F69
  refine F89_call (F89_spec (back0 ?_))
  refine F89_call (F89_spec (back0 ?_))
  refine F90_call (F90_spec hb hc fun w1 f1 => ⟨fun h => back_ptr2 ?_, fun h => back_ptr2 ?_⟩)
  · refine F69_main (hb.fr f1 id id) (hc.fr f1 id id) h hm fun w2 f2 => ?_
    rw [Nat.max_eq_right h] at hk
    exact hk _ (f1.trans f2 fun _ h => h.elim)
  · refine F69_main (hc.fr f1 id id) (hb.fr f1 id id) (Nat.le_of_lt h) hn fun w2 f2 => ?_
    rw [Nat.max_eq_left (Nat.le_of_lt h)] at hk
    have e : (fun j => g j ^^ f j) = fun j => f j ^^ g j := by funext j; cases f j <;> cases g j <;> rfl
    rw [e]
    exact hk _ (f1.trans f2 fun _ h => h.elim)

theorem F68_main {b qb n c qc m : Nat} {f g : Nat → Bool} {k : Value → W} {w : World} (hb : BSet w b qb n f) (hc : BSet w c qc m g) (hnm : n ≤ m) (hn : 0 < n) (hm : m < 8388608)
    (hk : ∀ w', Fr (fun _ => False) w w' → k (.int .u64 (cnt n (fun j => f j && g j) : Nat)) w') : (
   Drw <|
   NN (some ⟨b, 0, none⟩) fun a9 =>
   LoadT .slice (a9.add 1) fun s10p s10l s10c =>
   NN (some ⟨c, 0, none⟩) fun a11 =>
   LoadT .slice (a11.add 1) fun s12p s12l s12c =>
   CallT Go.Proofs.Try.prog 99 [.slice s10p s10l s10c, .slice s12p s12l s12c] (.s (.one (.int .u64))) fun x13 =>
   k (.int .u64 x13)) w := by
  obtain ⟨⟨ws, rest, hw, hf⟩, hfl⟩ := hb
  obtain ⟨⟨vs, rest', hv, hg⟩, hgl⟩ := hc
  have hlv := hw.len
  have hlv' := hv.len
  refine drw_intro fun w1 f1 z1 => ?_
  have hw1 := hw.fr f1 id id
  have hv1 := hv.fr f1 id id
  simp only [NN_mk, LoadT_slice, Req_iff, add_mk, Nat.zero_add, hw1.c1, hv1.c1, Option.some.injEq, Value.slice.injEq]
  refine ⟨_, _, _, ⟨rfl, rfl, rfl⟩, _, _, _, ⟨rfl, rfl, rfl⟩, ?_⟩
  refine F99_call (F99_spec hw1.rw hv1.rw hw.word_lt hv.word_lt (Nat.le_refl _) (by omega) (by omega) (by omega) (by omega) fun w2 f2 => back_int ?_)
  have e : cnt (64 * ws.length) (fun t => wbit ws t && wbit vs t) = cnt n (fun j => f j && g j) := by
    rw [cnt_more (n := n) (by omega) (fun j hj => by rw [hf j] at hj; exact hfl j (Bool.and_eq_true _ _ ▸ hj).1)]
    exact cnt_congr fun i _ => by rw [hf, hg]
  rw [e]
  exact hk _ (f1.trans f2 fun _ h => h.elim)
/-- IntersectionCardinality. -/
theorem F68_spec {b qb n c qc m : Nat} {f g : Nat → Bool} {k : Value → W} {w : World} (hb : BSet w b qb n f) (hc : BSet w c qc m g) (hn : n < 8388608) (hm : m < 8388608)
    (hk : ∀ w', Fr (fun _ => False) w w' → k (.int .u64 (cnt (min n m) (fun j => f j && g j) : Nat)) w') : F68 k (some ⟨b, 0, none⟩) (some ⟨c, 0, none⟩) w := by
  have hw : ∃ ws rest, BW w b qb n ws rest := by obtain ⟨⟨ws, rest, hw, _⟩, _⟩ := hb; exact ⟨ws, rest, hw⟩
  have hv : ∃ ws rest, BW w c qc m ws rest := by obtain ⟨⟨ws, rest, hw, _⟩, _⟩ := hc; exact ⟨ws, rest, hw⟩
  obtain ⟨_, _, hw⟩ := hw
  obtain ⟨_, _, hv⟩ := hv
  unfold F68
  refine F89_call (F89_spec (back0 ?_))
  refine F89_call (F89_spec (back0 ?_))
  refine LoadT_int.2 ⟨_, hw.c0, ?_⟩
  refine BIf_intro (fun h => ?_) (fun h => ?_)
  · have h : n = 0 := by have : ((n : Nat) : Int) = 0 := by simpa using h
                         omega
    have e0 : cnt (min n m) (fun j => f j && g j) = 0 := by rw [h, Nat.zero_min]; rfl
    rw [e0] at hk
    exact hk _ (Fr.refl _ _)
  have h : 0 < n := by
    have : ¬ ((n : Nat) : Int) = 0 := by simpa using h
    omega
  refine LoadT_int.2 ⟨_, hv.c0, ?_⟩
  refine BIf_intro (fun h2 => ?_) (fun h2 => ?_)
  · have h2 : m = 0 := by have : ((m : Nat) : Int) = 0 := by simpa using h2
                          omega
    have e0 : cnt (min n m) (fun j => f j && g j) = 0 := by rw [h2, Nat.min_zero]; rfl
    rw [e0] at hk
    exact hk _ (Fr.refl _ _)
  have h2 : 0 < m := by
    have : ¬ ((m : Nat) : Int) = 0 := by simpa using h2
    omega
  refine F90_call (F90_spec hb hc fun w1 f1 => ⟨fun h => back_ptr2 ?_, fun h => back_ptr2 ?_⟩)
  · refine F68_main (hb.fr f1 id id) (hc.fr f1 id id) h (by omega) hm fun w2 f2 => ?_
    rw [Nat.min_eq_left h] at hk
    exact hk _ (f1.trans f2 fun _ h => h.elim)
  · refine F68_main (hc.fr f1 id id) (hb.fr f1 id id) (Nat.le_of_lt h) (by omega) hn fun w2 f2 => ?_
    rw [Nat.min_eq_right (Nat.le_of_lt h)] at hk
    have e : (fun j => g j && f j) = fun j => f j && g j := by funext j; exact Bool.and_comm _ _
    rw [e]
    exact hk _ (f1.trans f2 fun _ h => h.elim)
end Go.Proofs.Ytopdlfecfgimpaa.E
