/-
  The four cardinalities. Printed by this session's own program diff.py.
-/
import Derived.Test.YtopdlfecfgimpaaDoorPop2
namespace Go.Proofs.YtopdlfecfgimpaaDoor.E
open Go
set_option linter.unusedSimpArgs false
set_option linter.unusedVariables false
set_option maxRecDepth 100000

theorem cnt_more {n m : Nat} {f : Nat → Bool} (h : n ≤ m) (hf : ∀ j, f j = true → j < n) : cnt m f = cnt n f := by
  obtain ⟨d, rfl⟩ := Nat.exists_eq_add_of_le h
  rw [cnt_add, cnt_zero (n := d), Nat.add_zero]
  intro i _
  cases hb : f (n + i) with
  | false => rfl
  | true => have := hf _ hb; omega
theorem sliceA_zero {q c : Nat} : sliceA (some ⟨q, 0, none⟩) 0 c 1 = some ⟨q, 0, none⟩ := by unfold sliceA; split <;> simp [add_mk]
theorem F54_tail {c qc m l : Nat} {vs rest' : List Nat} {g : Int → W} {w : World} (hv : BW w c qc m vs rest') (hl : l ≤ vs.length) (hm : m < 16777216)
    (hk : g ((cnt (64 * (vs.length - l)) (fun i => wbit vs (64 * l + i)) : Nat) : Int) w) :
    CallT Go.Proofs.Tryd.prog 54 [.slice (sliceA (some ⟨qc, 0, none⟩) l (vs.length + rest'.length) 1) (vs.length - l) (vs.length + rest'.length - l)] (.s (.one (.int .u64))) g w := by
  have hlv := hv.len
  have hlen : vs.length - l = (vs.drop l).length := by simp
  have hsee : Sees w (sliceA (some ⟨qc, 0, none⟩) l (vs.length + rest'.length) 1) (vs.drop l) := by
    rcases Nat.eq_zero_or_pos (vs.length - l) with h0 | h0
    · exact .inl (List.drop_eq_nil_of_le (by omega))
    · have e : sliceA (some ⟨qc, 0, none⟩) l (vs.length + rest'.length) 1 = some ⟨qc, l, none⟩ := by
        unfold sliceA; rw [if_neg (by omega)]; simp [add_mk]
      rw [e]
      refine .inr ⟨_, rfl, hv.row.lt, fun j hj => ?_⟩
      rw [add_mk, hv.word (by simp at hj; omega)]
      simp only [List.getD_eq_getElem?_getD, List.getElem?_drop]
  have e : (fun i => wbit vs (64 * l + i)) = wbit (vs.drop l) := by funext i; exact wbit_drop.symm
  rw [e] at hk
  rw [hlen] at hk ⊢
  refine F54_call (F54_spec hsee (fun j => ?_) (by simp; omega) (back_int hk))
  have := hv.word_lt (l + j)
  simpa only [List.getD_eq_getElem?_getD, List.getElem?_drop] using this

theorem F45_main {b qb n c qc m : Nat} {f g : Nat → Bool} {k : Value → W} {w : World} (hb : BSet w b qb n f) (hc : BSet w c qc m g) (hnm : n ≤ m) (hm : m < 8388608)
    (hk : ∀ w', Fr (fun _ => False) w w' → k (.int .u64 (cnt m (fun j => f j || g j) : Nat)) w') : (
    NN (some ⟨b, 0, none⟩) fun a5 =>
    LoadT .slice (a5.add 1) fun s6p s6l s6c =>
    BIf (decide (((s6l : Nat) : Int) > 0)) (
     Drw <|
     NN (some ⟨b, 0, none⟩) fun a7 =>
     LoadT .slice (a7.add 1) fun s8p s8l s8c =>
     NN (some ⟨c, 0, none⟩) fun a9 =>
     LoadT .slice (a9.add 1) fun s10p s10l s10c =>
     CallT Go.Proofs.Tryd.prog 61 [.slice s8p s8l s8c, .slice s10p s10l s10c] (.s (.one (.int .u64))) fun x11 =>
     F45_J1 k (some ⟨b, 0, none⟩) (some ⟨c, 0, none⟩) (addI .u64 0 x11)) (
     F45_J1 k (some ⟨b, 0, none⟩) (some ⟨c, 0, none⟩) 0)) w := by
  obtain ⟨⟨ws, rest, hw, hf⟩, hfl⟩ := hb
  obtain ⟨⟨vs, rest', hv, hg⟩, hgl⟩ := hc
  have hlv := hw.len
  have hlv' := hv.len
  have e : cnt (64 * ws.length) (fun t => wbit ws t || wbit vs t) + cnt (64 * (vs.length - ws.length)) (fun i => wbit vs (64 * ws.length + i)) = cnt m (fun j => f j || g j) := by
    have h1 : cnt (64 * vs.length) (fun t => wbit ws t || wbit vs t) = cnt m (fun j => f j || g j) := by
      rw [cnt_more (n := m) (by omega) (fun j hj => by
        rw [hf j, hg j] at hj
        cases h1 : f j with
        | true => have := hfl j h1; omega
        | false => rw [h1] at hj; exact hgl j (by simpa using hj))]
      exact cnt_congr fun i _ => by rw [hf, hg]
    rw [← h1, show 64 * vs.length = 64 * ws.length + 64 * (vs.length - ws.length) by omega, cnt_add]
    congr 1
    apply cnt_congr
    intro i hi
    have : wbit ws (64 * ws.length + i) = false := wbit_ge (by omega)
    rw [this]; simp
  have J : ∀ (x : Nat) w1, Fr (fun _ => False) w w1 → x ≤ 16777280 → k (.int .u64 (x + cnt (64 * (vs.length - ws.length)) (fun i => wbit vs (64 * ws.length + i)) : Nat)) = k (.int .u64 (cnt m (fun j => f j || g j) : Nat)) →
      F45_J1 k (some ⟨b, 0, none⟩) (some ⟨c, 0, none⟩) x w1 := by
    intro x w1 f1 hx hkx
    unfold F45_J1
    refine drw_intro fun w2 f2 z2 => ?_
    have f12 := f1.trans f2 fun _ h => h.elim
    have hw2 := hw.fr f12 id id
    have hv2 := hv.fr f12 id id
    simp only [NN_mk, LoadT_slice, add_mk, Nat.zero_add, hw2.c1, hv2.c1, Option.some.injEq, Value.slice.injEq]
    refine ⟨_, _, _, ⟨rfl, rfl, rfl⟩, _, _, _, ⟨rfl, rfl, rfl⟩, ?_⟩
    refine BIf_intro (fun h => ?_) (fun h => ?_)
    · have h := of_decide_eq_true h
      refine drw_intro fun w3 f3 z3 => ?_
      have f13 := f12.trans f3 fun _ h => h.elim
      have hw3 := hw.fr f13 id id
      have hv3 := hv.fr f13 id id
      simp only [NN_mk, LoadT_slice, Req_iff, add_mk, Nat.zero_add, hw3.c1, hv3.c1, Option.some.injEq, Value.slice.injEq]
      refine ⟨_, _, _, ⟨rfl, rfl, rfl⟩, _, _, _, ⟨rfl, rfl, rfl⟩, ⟨by omega, by omega⟩, ?_⟩
      simp only [Int.toNat_natCast]
      refine F54_tail hv3 (by omega) (by omega) ?_
      refine Chk1_iff.2 ⟨hw3.c1, Chk1_iff.2 ⟨hv3.c1, ?_⟩⟩
      have hc := cnt_le (64 * (vs.length - ws.length)) (fun i => wbit vs (64 * ws.length + i))
      rw [addI_nat (by omega), hkx]
      exact hk _ f13
    · have h := of_decide_eq_false h
      have h0 : 64 * (vs.length - ws.length) = 0 := by omega
      rw [h0] at hkx
      have e2 : x + cnt 0 (fun i => wbit vs (64 * ws.length + i)) = x := rfl
      rw [e2] at hkx
      rw [hkx]
      exact hk _ f12
  simp only [NN_mk, LoadT_slice, add_mk, Nat.zero_add, hw.c1, Option.some.injEq, Value.slice.injEq]
  refine ⟨_, _, _, ⟨rfl, rfl, rfl⟩, ?_⟩
  refine BIf_intro (fun h => ?_) (fun h => ?_)
  · have h := of_decide_eq_true h
    refine drw_intro fun w1 f1 z1 => ?_
    have hw1 := hw.fr f1 id id
    have hv1 := hv.fr f1 id id
    simp only [NN_mk, LoadT_slice, Req_iff, add_mk, Nat.zero_add, hw1.c1, hv1.c1, Option.some.injEq, Value.slice.injEq]
    refine ⟨_, _, _, ⟨rfl, rfl, rfl⟩, _, _, _, ⟨rfl, rfl, rfl⟩, ?_⟩
    have hc := cnt_le (64 * ws.length) (fun t => wbit ws t || wbit vs t)
    refine F61_call (F61_spec hw1.rw hv1.rw hw.word_lt hv.word_lt (Nat.le_refl _) (by omega) (by omega) (by omega) (by omega) fun w2 f2 => back_int ?_)
    rw [show addI .u64 0 ((cnt (64 * ws.length) (fun t => wbit ws t || wbit vs t) : Nat) : Int) = ((cnt (64 * ws.length) (fun t => wbit ws t || wbit vs t) : Nat) : Int) by rw [addI_u64 (by omega) (by omega)]; omega]
    exact J _ _ (f1.trans f2 fun _ h => h.elim) (by omega) (by rw [e])
  · have h := of_decide_eq_false h
    have h0 : 64 * ws.length = 0 := by omega
    rw [h0] at e
    have e2 : cnt 0 (fun t => wbit ws t || wbit vs t) = 0 := rfl
    rw [e2] at e
    refine J 0 _ (Fr.refl _ _) (by omega) ?_
    rw [← e, h0]
/-- UnionCardinality. -/
theorem F45_spec {b qb n c qc m : Nat} {f g : Nat → Bool} {k : Value → W} {w : World} (hb : BSet w b qb n f) (hc : BSet w c qc m g) (hn : n < 8388608) (hm : m < 8388608)
    (hk : ∀ w', Fr (fun _ => False) w w' → k (.int .u64 (cnt (max n m) (fun j => f j || g j) : Nat)) w') : F45 k (some ⟨b, 0, none⟩) (some ⟨c, 0, none⟩) w := by
  unfold F45
  refine F55_call (F55_spec (back0 ?_))
  refine F55_call (F55_spec (back0 ?_))
  refine F60_call (F60_spec hb hc fun w1 f1 => ⟨fun h => back_ptr2 ?_, fun h => back_ptr2 ?_⟩)
  · refine F45_main (hb.fr f1 id id) (hc.fr f1 id id) h hm fun w2 f2 => ?_
    rw [Nat.max_eq_right h] at hk
    exact hk _ (f1.trans f2 fun _ h => h.elim)
  · refine F45_main (hc.fr f1 id id) (hb.fr f1 id id) (Nat.le_of_lt h) hn fun w2 f2 => ?_
    rw [Nat.max_eq_left (Nat.le_of_lt h)] at hk
    have e : (fun j => g j || f j) = fun j => f j || g j := by funext j; cases f j <;> cases g j <;> rfl
    rw [e]
    exact hk _ (f1.trans f2 fun _ h => h.elim)

end Go.Proofs.YtopdlfecfgimpaaDoor.E
