/-
  Interval trees: the greatest and least ends of a node; rotations.
-/
import Derived.Test.YthapmkjmfkmnoaaAt1
namespace Go.Proofs.Ythapmkjmfkmnoaa.E
open Go
set_option linter.unusedSimpArgs false
set_option linter.unusedVariables false
set_option maxRecDepth 100000
set_option maxHeartbeats 8000000

/-- All that nodes point to are nodes. -/
def Clo (D : List Nat) (n : Nn) : Prop := (∀ b, n.c0 = some b → b ∈ D) ∧ ∀ b, n.c1 = some b → b ∈ D
def setMx (s : St) (b : Nat) (x : Spn) : St := up s b { s b with mx := mxOf s (s b) x }
def setMn (s : St) (b : Nat) (x : Spn) : St := up s b { s b with mn := mnOf s (s b) x }
theorem mxO_some (s : St) (m : Int) (c : Nat) : mxO s m (some c) = if (s c).mx > m then (s c).mx else m := rfl
theorem mnO_some (s : St) (m : Int) (c : Nat) : mnO s m (some c) = if (s c).mn < m then (s c).mn else m := rfl
theorem up_up (s : St) (b : Nat) (m n : Nn) : up (up s b m) b n = up s b n := by
  funext x; unfold up; split <;> rfl
theorem up_self (s : St) (b : Nat) : up s b (s b) = s := by
  funext x; unfold up; split
  · rename_i h; rw [h]
  · rfl
section
variable {w w' : World} {D : List Nat} {s : St} {b : Nat} {k : Value → W} {x : Spn}
theorem tr (f : Fr (fun _ => False) w w') {S : Nat → Prop} : Fr S w w' := f.mono fun _ h => h.elim
/-- setMax (where no child is the node itself). -/
theorem F55_spec (h : MS w D s) (hb : b ∈ D) (hx : (s b).x = some x) (hc : Clo D (s b)) (n0 : (s b).c0 ≠ some b) (n1 : (s b).c1 ≠ some b) (hk : ∀ w', MS w' D (setMx s b x) → Fr (fun y => y = b) w w' → k (.tuple #[]) w') : F55 k (some ⟨b, 0, none⟩) w := by
  have hsp := (h b hb).2 x hx
  unfold F55
  simp only [NN_mk]
  refine ld_x h hb hx ?_
  rw [show (1 : Int) = ((1 : Nat) : Int) from rfl]
  refine hi_intro hsp (by decide) fun w1 f1 => ?_
  have h1 := h.fr0 f1
  rw [add_mk, Nat.zero_add]
  refine st_mx h1 hb fun w2 h2 f2 z2 => drw_intro fun w3 f3 z3 => ?_
  have h3 := h2.fr0 f3
  have f03 : Fr (fun y => y = b) w w3 := ((f1.mono fun _ h => h.elim).trans f2 fun _ h => .inl h).trans f3 fun _ h => h.elim
  have e3 : (up s b { s b with mx := plc x.highs 1 }) b = { s b with mx := plc x.highs 1 } := up_same _ _ _
  simp only [NN_mk, add_mk, Nat.zero_add]
  rw [show ((0 : Int).toNat) = 0 from rfl]
  refine Req_iff.2 ⟨by decide, ld_ch h3 hb (by decide) ?_⟩
  rw [e3]
  -- the second half
  have J2 : ∀ (w4 : World) (m : Int), MS w4 D (up s b { s b with mx := m }) → m = mxO s x.hi (s b).c0 → Fr (fun y => y = b) w w4 → F55_J2 k (some ⟨b, 0, none⟩) w4 := fun w4 m h4 hm f4 => by
    unfold F55_J2
    refine drw_intro fun w5 f5 z5 => ?_
    have h5 := h4.fr0 f5
    have f05 : Fr (fun y => y = b) w w5 := f4.trans f5 fun _ h => h.elim
    have e5 : (up s b { s b with mx := m }) b = { s b with mx := m } := up_same _ _ _
    simp only [NN_mk, add_mk, Nat.zero_add]
    rw [show ((1 : Int).toNat) = 1 from rfl]
    refine Req_iff.2 ⟨by decide, ld_ch (d := 1) h5 hb (by decide) ?_⟩
    rw [e5]
    have J3 : ∀ (v : Bool), (v = true → ∃ c, (s b).c1 = some c ∧ (s c).mx > m) → (v = false → mxO s m (s b).c1 = m) → F55_J3 k (some ⟨b, 0, none⟩) v w5 := fun v hv1 hv0 => by
      unfold F55_J3
      cases v with
      | false =>
        rw [BIf_false]
        refine hk w5 ?_ f05
        unfold setMx mxOf
        rw [← hm, hv0 rfl]; exact h5
      | true =>
        rw [BIf_true]
        obtain ⟨c, hc1, hgt⟩ := hv1 rfl
        have hcb : c ≠ b := fun e => n1 (by rw [hc1, e])
        simp only [NN_mk, add_mk, Nat.zero_add]
        rw [show ((1 : Int).toNat) = 1 from rfl]
        refine Req_iff.2 ⟨by decide, ld_ch (d := 1) h5 hb (by decide) ?_⟩
        rw [e5]
        show NN (oA (s b).c1) _ w5
        rw [hc1]
        simp only [oA_some, NN_mk, add_mk, Nat.zero_add]
        refine ld_mx h5 (hc.2 c hc1) ?_
        rw [up_ne hcb]
        refine st_mx h5 hb fun w6 h6 f6 z6 => ?_
        rw [up_up, e5] at h6
        refine hk w6 ?_ (f05.trans f6 fun _ h => .inl h)
        unfold setMx mxOf
        rw [← hm, hc1]
        rw [mxO_some, if_pos hgt]
        exact h6
    show BIf (!(oA (s b).c1).isNone) _ _ w5
    cases hc1 : (s b).c1 with
    | none =>
      show BIf false _ _ w5
      rw [BIf_false]
      exact J3 false (fun h => by cases h) fun _ => by rw [hc1]; rfl
    | some c =>
      show BIf true _ _ w5
      rw [BIf_true]
      have hcb : c ≠ b := fun e => n1 (by rw [hc1, e])
      refine Req_iff.2 ⟨by decide, ld_ch (d := 1) h5 hb (by decide) ?_⟩
      rw [e5]
      show NN (oA (s b).c1) _ w5
      rw [hc1]
      simp only [oA_some, NN_mk, add_mk, Nat.zero_add]
      refine ld_mx h5 (hc.2 c hc1) ?_
      rw [up_ne hcb]
      refine ld_mx h5 hb ?_
      rw [e5]
      refine J3 _ (fun hv => ⟨c, hc1, by simpa using hv⟩) fun hv => ?_
      rw [hc1, mxO_some]
      rw [if_neg (by simpa using hv)]
  have J1 : ∀ (v : Bool), (v = true → ∃ c, (s b).c0 = some c ∧ (s c).mx > x.hi) → (v = false → mxO s x.hi (s b).c0 = x.hi) → F55_J1 k (some ⟨b, 0, none⟩) v w3 := fun v hv1 hv0 => by
    unfold F55_J1
    cases v with
    | false =>
      rw [BIf_false]
      exact J2 w3 _ h3 (hv0 rfl).symm f03
    | true =>
      rw [BIf_true]
      obtain ⟨c, hc0, hgt⟩ := hv1 rfl
      have hcb : c ≠ b := fun e => n0 (by rw [hc0, e])
      simp only [NN_mk, add_mk, Nat.zero_add]
      rw [show ((0 : Int).toNat) = 0 from rfl]
      refine Req_iff.2 ⟨by decide, ld_ch (d := 0) h3 hb (by decide) ?_⟩
      rw [e3]
      show NN (oA (s b).c0) _ w3
      rw [hc0]
      simp only [oA_some, NN_mk, add_mk, Nat.zero_add]
      refine ld_mx h3 (hc.1 c hc0) ?_
      rw [up_ne hcb]
      refine st_mx h3 hb fun w6 h6 f6 z6 => ?_
      rw [up_up, e3] at h6
      refine J2 w6 _ h6 ?_ (f03.trans f6 fun _ h => .inl h)
      rw [hc0, mxO_some]
      rw [if_pos hgt]
  show BIf (!(oA (s b).c0).isNone) _ _ w3
  cases hc0 : (s b).c0 with
  | none =>
    show BIf false _ _ w3
    rw [BIf_false]
    exact J1 false (fun h => by cases h) fun _ => by rw [hc0]; rfl
  | some c =>
    show BIf true _ _ w3
    rw [BIf_true]
    have hcb : c ≠ b := fun e => n0 (by rw [hc0, e])
    refine Req_iff.2 ⟨by decide, ld_ch (d := 0) h3 hb (by decide) ?_⟩
    rw [e3]
    show NN (oA (s b).c0) _ w3
    rw [hc0]
    simp only [oA_some, NN_mk, add_mk, Nat.zero_add]
    refine ld_mx h3 (hc.1 c hc0) ?_
    rw [up_ne hcb]
    refine ld_mx h3 hb ?_
    rw [e3]
    refine J1 _ (fun hv => ⟨c, hc0, by simpa [Spn.hi] using hv⟩) fun hv => ?_
    rw [hc0, mxO_some]
    rw [if_neg (by simpa [Spn.hi] using hv)]
/-- setMin (where no child is the node itself). -/
theorem F56_spec (h : MS w D s) (hb : b ∈ D) (hx : (s b).x = some x) (hc : Clo D (s b)) (n0 : (s b).c0 ≠ some b) (n1 : (s b).c1 ≠ some b) (hk : ∀ w', MS w' D (setMn s b x) → Fr (fun y => y = b) w w' → k (.tuple #[]) w') : F56 k (some ⟨b, 0, none⟩) w := by
  have hsp := (h b hb).2 x hx
  have J4 : ∀ w5, MS w5 D (setMn s b x) → Fr (fun y => y = b) w w5 → F56_J4 k (some ⟨b, 0, none⟩) w5 := fun w5 h5 f5 => by
    unfold F56_J4
    refine drw_intro fun w6 f6 z6 => ?_
    have h6 := h5.fr0 f6
    have e6 : (setMn s b x) b = { s b with mn := mnOf s (s b) x } := up_same _ _ _
    have hx6 : ((setMn s b x) b).x = some x := by rw [e6]; exact hx
    simp only [NN_mk, add_mk, Nat.zero_add]
    refine ld_x h6 hb hx6 (ld_mn h6 hb ?_)
    rw [show (1 : Int) = ((1 : Nat) : Int) from rfl]
    refine lo_intro ((h6 b hb).2 x hx6) (by decide) fun w7 f7 => ?_
    have h7 := h6.fr0 f7
    rw [e6]
    have hc7 : w7.cell? ⟨b, 2, none⟩ = some (.int .i64 (mnOf s (s b) x)) := by
      have hb7 := (h7 b hb).1
      rw [e6] at hb7
      rw [hb7.cell]; rfl
    refine ⟨hc7, ?_⟩
    have hle : mnOf s (s b) x ≤ plc x.lows 1 := by
      have one : ∀ (m : Int) (o : Option Nat), mnO s m o ≤ m := fun m o => by
        cases o with
        | none => exact Int.le_refl _
        | some c => rw [mnO_some]; split <;> omega
      exact Int.le_trans (one _ _) (one _ _)
    rw [decide_eq_false (show ¬ (plc x.lows 1 < mnOf s (s b) x) by omega), BIf_false]
    exact hk w7 h7 ((f5.trans f6 fun _ h => h.elim).trans f7 fun _ h => h.elim)
  unfold F56
  simp only [NN_mk]
  refine ld_x h hb hx ?_
  rw [show (1 : Int) = ((1 : Nat) : Int) from rfl]
  refine lo_intro hsp (by decide) fun w1 f1 => ?_
  have h1 := h.fr0 f1
  rw [add_mk, Nat.zero_add]
  refine st_mn h1 hb fun w2 h2 f2 z2 => drw_intro fun w3 f3 z3 => ?_
  have h3 := h2.fr0 f3
  have f03 : Fr (fun y => y = b) w w3 := ((f1.mono fun _ h => h.elim).trans f2 fun _ h => .inl h).trans f3 fun _ h => h.elim
  have e3 : (up s b { s b with mn := plc x.lows 1 }) b = { s b with mn := plc x.lows 1 } := up_same _ _ _
  simp only [NN_mk, add_mk, Nat.zero_add]
  rw [show ((0 : Int).toNat) = 0 from rfl]
  refine Req_iff.2 ⟨by decide, ld_ch h3 hb (by decide) ?_⟩
  rw [e3]
  -- the second half
  have J2 : ∀ (w4 : World) (m : Int), MS w4 D (up s b { s b with mn := m }) → m = mnO s x.lo (s b).c0 → Fr (fun y => y = b) w w4 → F56_J2 k (some ⟨b, 0, none⟩) w4 := fun w4 m h4 hm f4 => by
    unfold F56_J2
    refine drw_intro fun w5 f5 z5 => ?_
    have h5 := h4.fr0 f5
    have f05 : Fr (fun y => y = b) w w5 := f4.trans f5 fun _ h => h.elim
    have e5 : (up s b { s b with mn := m }) b = { s b with mn := m } := up_same _ _ _
    simp only [NN_mk, add_mk, Nat.zero_add]
    rw [show ((1 : Int).toNat) = 1 from rfl]
    refine Req_iff.2 ⟨by decide, ld_ch (d := 1) h5 hb (by decide) ?_⟩
    rw [e5]
    have J3 : ∀ (v : Bool), (v = true → ∃ c, (s b).c1 = some c ∧ (s c).mn < m) → (v = false → mnO s m (s b).c1 = m) → F56_J3 k (some ⟨b, 0, none⟩) v w5 := fun v hv1 hv0 => by
      unfold F56_J3
      cases v with
      | false =>
        rw [BIf_false]
        refine J4 w5 ?_ f05
        unfold setMn mnOf
        rw [← hm, hv0 rfl]; exact h5
      | true =>
        rw [BIf_true]
        obtain ⟨c, hc1, hgt⟩ := hv1 rfl
        have hcb : c ≠ b := fun e => n1 (by rw [hc1, e])
        simp only [NN_mk, add_mk, Nat.zero_add]
        rw [show ((1 : Int).toNat) = 1 from rfl]
        refine Req_iff.2 ⟨by decide, ld_ch (d := 1) h5 hb (by decide) ?_⟩
        rw [e5]
        show NN (oA (s b).c1) _ w5
        rw [hc1]
        simp only [oA_some, NN_mk, add_mk, Nat.zero_add]
        refine ld_mn h5 (hc.2 c hc1) ?_
        rw [up_ne hcb]
        refine st_mn h5 hb fun w6 h6 f6 z6 => ?_
        rw [up_up, e5] at h6
        refine J4 w6 ?_ (f05.trans f6 fun _ h => .inl h)
        unfold setMn mnOf
        rw [← hm, hc1]
        rw [mnO_some, if_pos hgt]
        exact h6
    show BIf (!(oA (s b).c1).isNone) _ _ w5
    cases hc1 : (s b).c1 with
    | none =>
      show BIf false _ _ w5
      rw [BIf_false]
      exact J3 false (fun h => by cases h) fun _ => by rw [hc1]; rfl
    | some c =>
      show BIf true _ _ w5
      rw [BIf_true]
      have hcb : c ≠ b := fun e => n1 (by rw [hc1, e])
      refine Req_iff.2 ⟨by decide, ld_ch (d := 1) h5 hb (by decide) ?_⟩
      rw [e5]
      show NN (oA (s b).c1) _ w5
      rw [hc1]
      simp only [oA_some, NN_mk, add_mk, Nat.zero_add]
      refine ld_mn h5 (hc.2 c hc1) ?_
      rw [up_ne hcb]
      refine ld_mn h5 hb ?_
      rw [e5]
      refine J3 _ (fun hv => ⟨c, hc1, by simpa using hv⟩) fun hv => ?_
      rw [hc1, mnO_some]
      rw [if_neg (by simpa using hv)]
  have J1 : ∀ (v : Bool), (v = true → ∃ c, (s b).c0 = some c ∧ (s c).mn < x.lo) → (v = false → mnO s x.lo (s b).c0 = x.lo) → F56_J1 k (some ⟨b, 0, none⟩) v w3 := fun v hv1 hv0 => by
    unfold F56_J1
    cases v with
    | false =>
      rw [BIf_false]
      exact J2 w3 _ h3 (hv0 rfl).symm f03
    | true =>
      rw [BIf_true]
      obtain ⟨c, hc0, hgt⟩ := hv1 rfl
      have hcb : c ≠ b := fun e => n0 (by rw [hc0, e])
      simp only [NN_mk, add_mk, Nat.zero_add]
      rw [show ((0 : Int).toNat) = 0 from rfl]
      refine Req_iff.2 ⟨by decide, ld_ch (d := 0) h3 hb (by decide) ?_⟩
      rw [e3]
      show NN (oA (s b).c0) _ w3
      rw [hc0]
      simp only [oA_some, NN_mk, add_mk, Nat.zero_add]
      refine ld_mn h3 (hc.1 c hc0) ?_
      rw [up_ne hcb]
      refine st_mn h3 hb fun w6 h6 f6 z6 => ?_
      rw [up_up, e3] at h6
      refine J2 w6 _ h6 ?_ (f03.trans f6 fun _ h => .inl h)
      rw [hc0, mnO_some]
      rw [if_pos hgt]
  show BIf (!(oA (s b).c0).isNone) _ _ w3
  cases hc0 : (s b).c0 with
  | none =>
    show BIf false _ _ w3
    rw [BIf_false]
    exact J1 false (fun h => by cases h) fun _ => by rw [hc0]; rfl
  | some c =>
    show BIf true _ _ w3
    rw [BIf_true]
    have hcb : c ≠ b := fun e => n0 (by rw [hc0, e])
    refine Req_iff.2 ⟨by decide, ld_ch (d := 0) h3 hb (by decide) ?_⟩
    rw [e3]
    show NN (oA (s b).c0) _ w3
    rw [hc0]
    simp only [oA_some, NN_mk, add_mk, Nat.zero_add]
    refine ld_mn h3 (hc.1 c hc0) ?_
    rw [up_ne hcb]
    refine ld_mn h3 hb ?_
    rw [e3]
    refine J1 _ (fun hv => ⟨c, hc0, by simpa [Spn.lo] using hv⟩) fun hv => ?_
    rw [hc0, mnO_some]
    rw [if_neg (by simpa [Spn.lo] using hv)]
end
end Go.Proofs.Ythapmkjmfkmnoaa.E
