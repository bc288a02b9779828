/-
  Plus trees: a run.
-/
import Derived.Test.YtofnapddoiodkaaPtX
namespace Go.Proofs.Ytofnapddoiodkaa.E
open Go
set_option linter.unusedSimpArgs false
set_option linter.unusedVariables false
set_option maxRecDepth 100000
set_option maxHeartbeats 8000000

theorem FrB.fr' {base : Nat} {w w' : World} (h : FrB base w w') : Fr (fun b => base ≤ b) w w' := h.fr fun b hb => .inl hb
section
variable {k : Value → W} {w : World}
theorem F6_J1_spec {again : Option Addr → Option Addr → Nat → Nat → Option Addr → Nat → Nat → Int → Int → W} {tp op sp : Option Addr} {ol oc sl sc n base : Nat} {x i : Int} {ans : List Ans} {a : Ans}
    (A : AnB w base n a) (hO : SlO AnK w op ol oc ans) (hol : ol < 4000000000)
    (hk : ∀ op' oc' w', SlO AnK w' op' (ol + 1) oc' (ans ++ [a]) → Fr (fun b => bl op b) w w' → (∀ b, bl op' b → bl op b ∨ w.heap.size ≤ b) → again tp op' (ol + 1) oc' sp sl sc x (addI .i64 i 1) w') :
    F6_J1 k again tp op ol oc ⟨n, 0, none⟩ sp sl sc x i w := by
  obtain ⟨pi, ci, ph, ch, hB, hI, hH, _⟩ := A
  unfold F6_J1
  simp only [add_mk, Nat.zero_add]
  refine load_slice (i := 0) hB rfl (load_slice (i := 1) hB rfl (load_int (i := 2) hB rfl ?_))
  exact add_an hO rfl rfl rfl hI.sl hH.sl hol fun p' c' w' f' o' hp => hk p' c' w' o' f' hp
theorem F6_L2_spec {again : Option Addr → Option Addr → Nat → Nat → Option Addr → Nat → Nat → Int → Int → W} {tp op sp rp : Option Addr} {ol oc sl sc n base rc : Nat} {x i : Int} {os : List (Option KV)}
    (A : AnB w base n ⟨[], [], 0⟩) (hR : Own w 48 rp os.length rc (os.map encO)) (hl : os.length < 4000000000)
    (hk : ∀ w', AnB w' base n (ansO os) → FrB base w w' → F6_J1 k again tp op ol oc ⟨n, 0, none⟩ sp sl sc x i w') :
    Loop [.ptr, .slice, .addr, .slice, (.int .i64), (.int .i64), .slice, (.int .i64), (.int .i64)] (F6_L2 k again) tp op ol oc ⟨n, 0, none⟩ sp sl sc x i rp os.length rc ((os.length : Nat) : Int) 0 w := by
  refine F6_L2_rule (I := fun t' o1 o2 o3 n' s1 s2 s3 x' i' r1 r2 r3 m j w' => t' = tp ∧ o1 = op ∧ o2 = ol ∧ o3 = oc ∧ n' = ⟨n, 0, none⟩ ∧ s1 = sp ∧ s2 = sl ∧ s3 = sc ∧ x' = x ∧ i' = i ∧ r1 = rp ∧ r2 = os.length ∧ r3 = rc ∧ m = ((os.length : Nat) : Int) ∧
      ∃ t : Nat, j = ((t : Nat) : Int) ∧ t ≤ os.length ∧ AnB w' base n (ansO (os.take t)) ∧ FrB base w w')
    (μ := fun t' o1 o2 o3 n' s1 s2 s3 x' i' r1 r2 r3 m j w' => os.length - j.toNat) ?_ ⟨rfl, rfl, rfl, rfl, rfl, rfl, rfl, rfl, rfl, rfl, rfl, rfl, rfl, rfl, 0, rfl, Nat.zero_le _, A, FrB.refl _ _⟩
  rintro _ _ o2 o3 _ _ s2 s3 _ _ _ r2 r3 m j w1 ⟨rfl, rfl, e1, e2, rfl, rfl, e3, e4, rfl, rfl, rfl, e5, e6, rfl, t, rfl, ht, A1, f1⟩
  subst e1 e2 e3 e4 e6
  unfold F6_L2
  rw [e5]
  by_cases hlt : t < os.length
  · rw [decide_eq_true (show ((t : Nat) : Int) < ((os.length : Nat) : Int) by omega), BIf_true]
    have hx : os[t]? = some os[t] := List.getElem?_eq_getElem hlt
    obtain ⟨S, fS, TS, BS⟩ := id f1
    have hI := hR.fr fS (own_not (w' := w1) hR TS (by decide))
    obtain ⟨q, rest, rfl, hB, _, _⟩ := hI.get (by omega)
    rw [NN_mk, Req_iff, Int.toNat_natCast, add_mk, Nat.zero_add]
    refine ⟨⟨by omega, by omega⟩, load_any (v := encO os[t]) hB (by rw [List.getElem?_append_left (by simpa using hlt), List.getElem?_map, hx]; rfl) ?_⟩
    have hk1 := kps_len ⟨[], [], 0⟩ (os.take t)
    rw [List.length_take] at hk1
    have h1 : (ansO (os.take t)).items.length = min t os.length := by have := hk1.1; simpa [ansO] using this
    have h2 : (ansO (os.take t)).is.length = min t os.length := by have := hk1.2; simpa [ansO] using this
    refine F11_call (F11_spec A1 (by omega) (by omega) fun w2 A2 f2 => back0 ?_)
    rw [addI_i64 (by omega) (by omega)]
    refine ⟨⟨rfl, rfl, rfl, rfl, rfl, rfl, rfl, rfl, rfl, rfl, rfl, rfl, rfl, rfl, t + 1, by omega, hlt, ?_, f1.trans f2⟩, ?_⟩
    · have : ansO (os.take (t + 1)) = (ansO (os.take t)).kp os[t] := by rw [take_snoc hx]; exact Ans.kps_snoc _ _ _
      rw [this]; exact A2
    · show os.length - (((t : Nat) : Int) + 1).toNat < os.length - ((t : Nat) : Int).toNat
      omega
  · rw [decide_eq_false (show ¬ ((t : Nat) : Int) < ((os.length : Nat) : Int) by omega), BIf_false]
    have : t = os.length := by omega
    subst this
    rw [List.take_length] at A1
    exact hk w1 A1 f1
/-- PTRun. -/
theorem F6_spec {S : Nat} {ss : List Stp} {sp : Option Addr} {sc : Nat} (h3 : 3 ≤ S) (hS : S < 1000) (hSl : Sl StK w sp ss) (hok : ∀ s ∈ ss, Okay s) (htot : tot ss < 2000000000) (hlen : ss.length < 2000000000)
    (hk : ∀ w' p c, Sl AnK w' p (runA [] ss) → Fr (fun _ => False) w w' → k (.slice p ss.length c) w') : F6 k ((S : Nat) : Int) sp ss.length sc w := by
  unfold F6
  refine F7_call (F7_spec h3 hS fun w0 tb F0 h0 hF0 f0 => back_ptr ?_)
  refine F6_L1_rule (I := fun t' op ol oc sp' sl' sc' m j w' => t' = some ⟨tb, 0, none⟩ ∧ sp' = sp ∧ sl' = ss.length ∧ sc' = sc ∧ m = ((ss.length : Nat) : Int) ∧ ∃ (t : Nat) (F' : Nat → Prop), j = ((t : Nat) : Int) ∧ t ≤ ss.length ∧ ol = t ∧ PTree w' tb S (runL [] (ss.take t)) F' ∧ (∀ b, F' b → w.heap.size ≤ b) ∧
      SlO AnK w' op ol oc (runA [] (ss.take t)) ∧ (∀ b, bl op b → w.heap.size ≤ b) ∧ Fr (fun _ => False) w w')
    (μ := fun t' op ol oc sp' sl' sc' m j w' => ss.length - j.toNat) ?_ ⟨rfl, rfl, rfl, rfl, rfl, 0, F0, rfl, Nat.zero_le _, rfl, h0, hF0, SlO.nil _ _, (fun b ⟨_, h, _⟩ => by cases h), f0⟩
  rintro _ op ol oc _ sl' sc' m j w1 ⟨rfl, rfl, e1, e2, rfl, t, F1, rfl, ht, rfl, h1, hF1, O1, hop, f1⟩
  obtain rfl := e2.symm
  unfold F6_L1
  rw [e1]
  by_cases hlt : ol < ss.length
  · rw [decide_eq_true (show ((ol : Nat) : Int) < ((ss.length : Nat) : Int) by omega), BIf_true]
    have hx : ss[ol]? = some ss[ol] := List.getElem?_eq_getElem hlt
    generalize hst : ss[ol] = st at *
    have hmem : st ∈ ss := List.mem_of_getElem? hx
    have hop1 := hok st hmem
    obtain ⟨q, o, rfl, ip, ic, c0, c1, c2, hI⟩ := (hSl.fr0 f1).get hx
    simp only [NN_mk, Int.toNat_natCast, add_mk]
    refine ⟨by omega, LoadT_int.2 ⟨_, c0, LoadT_slice.2 ⟨_, _, _, c1, LoadT_int.2 ⟨_, c2, ?_⟩⟩⟩⟩
    refine new_intro fun n w2 e2 b2 f2 z2 => ?_
    refine store_intro (i := 0) b2 (by simp) rfl fun w3 b3 f3 z3 => ?_
    refine store_intro (i := 1) b3 (by simp) rfl fun w4 b4 f4 z4 => ?_
    refine store_intro (i := 2) b4 (by simp) rfl fun w5 b5 f5 z5 => ?_
    have hb5 : Blk w5 n 35 [.int .i64 st.op, .slice ip st.words.length ic, .int .i64 0] := b5
    refine new_intro fun n2 w6 e6 b6 f6 z6 => ?_
    have hb6 := hb5.fr f6 id
    have f16 : Fr (fun _ => False) w1 w6 := by
      have : Fr (fun b => b = n) w1 w5 := ((f2.mono (S' := fun b => b = n) fun _ h => h.elim).trans f3 fun _ h => .inl h).trans f4 (fun _ h => .inl h) |>.trans f5 fun _ h => .inl h
      exact (this.mono fun b h => .inr (by have h : b = n := h; omega)).trans f6 fun _ h => h.elim
    have hz16 : w6.heap.size = w1.heap.size + 2 := by omega
    refine load_int (i := 0) hb6 rfl ?_
    have h6 := h1.fr f16 fun _ _ => id
    have hI6 := hI.fr0 f16
    have A6 : AnB w6 n2 n2 ⟨[], [], 0⟩ := ⟨none, 0, none, 0, b6, SlO.nil _ _, SlO.nil _ _, Nat.le_refl _, (fun b ⟨_, h, _⟩ => by cases h), (fun b ⟨_, h, _⟩ => by cases h)⟩
    have hz1 := f1.size
    have hsnL : runL [] (ss.take (ol + 1)) = stepL (runL [] (ss.take ol)) st := by rw [take_snoc hx, runL_snoc]
    have hsnA : runA [] (ss.take (ol + 1)) = runA [] (ss.take ol) ++ [stepA (runL [] (ss.take ol)) st] := by rw [take_snoc hx, runA_snoc]
    have hl1 := runL_le (ss.take ol) []
    have ht1 : tot (ss.take ol) + st.words.length ≤ tot ss := by
      have h1 := tot_app (ss.take (ol + 1)) (ss.drop (ol + 1))
      rw [List.take_append_drop] at h1
      rw [take_snoc hx, tot_app] at h1
      simp only [tot] at h1
      omega
    simp only [List.length_nil] at hl1
    -- the end of a round
    have fin : ∀ (wz : World) (F2 : Nat → Prop), PTree wz tb S (stepL (runL [] (ss.take ol)) st) F2 → (∀ b, F2 b → F1 b ∨ w1.heap.size ≤ b) → Fr F1 w1 wz → AnB wz n2 n2 (stepA (runL [] (ss.take ol)) st) →
        F6_J1 k (fun t' op' ol' oc' sp' sl' sc' m j w' => (t' = some ⟨tb, 0, none⟩ ∧ sp' = some ⟨q, o, none⟩ ∧ sl' = ss.length ∧ sc' = sc ∧ m = ((ss.length : Nat) : Int) ∧ ∃ (t : Nat) (F' : Nat → Prop), j = ((t : Nat) : Int) ∧ t ≤ ss.length ∧ ol' = t ∧ PTree w' tb S (runL [] (ss.take t)) F' ∧ (∀ b, F' b → w.heap.size ≤ b) ∧
          SlO AnK w' op' ol' oc' (runA [] (ss.take t)) ∧ (∀ b, bl op' b → w.heap.size ≤ b) ∧ Fr (fun _ => False) w w') ∧ ss.length - j.toNat < ss.length - ((ol : Nat) : Int).toNat)
          (some ⟨tb, 0, none⟩) op ol oc ⟨n2, 0, none⟩ (some ⟨q, o, none⟩) ss.length sc ((ss.length : Nat) : Int) ((ol : Nat) : Int) wz := fun wz F2 hz hF2 fz Az => by
      have Oz := O1.fr fz h1.ty (by decide)
      refine F6_J1_spec Az Oz (by omega) fun op' oc' we Oe fe hpe => ?_
      rw [addI_i64 (by omega) (by omega)]
      have f0z : Fr (fun _ => False) w wz := f1.trans fz fun b h => .inr (hF1 b h)
      have hF2' : ∀ b, F2 b → w.heap.size ≤ b := fun b hb => by
        rcases hF2 b hb with h | h
        · exact hF1 b h
        · omega
      refine ⟨⟨rfl, rfl, rfl, rfl, rfl, ol + 1, F2, by omega, hlt, rfl, ?_, hF2', ?_, fun b hb => ?_, f0z.trans fe fun b hb => .inr (hop b hb)⟩, ?_⟩
      · rw [hsnL]
        refine hz.fr fe fun b hb hb2 => ?_
        obtain ⟨us, hu⟩ := Oz.blk hb2
        have := hz.ty b _ us hb hu
        simp [AnK] at this
      · rw [hsnA]; exact Oe
      · rcases hpe b hb with h | h
        · exact hop b h
        · have := f0z.size; omega
      · show ss.length - (((ol : Nat) : Int) + 1).toNat < ss.length - ((ol : Nat) : Int).toNat
        omega
    by_cases o1 : st.op = 1
    · rw [show (st.op == 1) = true by rw [o1]; rfl, BIf_true]
      refine load_slice (i := 1) hb6 rfl ?_
      refine F9_call (F9_spec hI6 (by omega) fun w7 p7 c7 O7 hp7 f7 => back_slice ?_)
      have h7 := h6.fr f7 fun _ _ => id
      refine F8_call (F8_spec h7 O7 (fun b hb hF => by have := h6.lt hF; have := hp7 b hb; omega) (by omega) fun w8 F8 h8 f8 hF8 => back0 ?_)
      have hLs : stepL (runL [] (ss.take ol)) st = putAll (runL [] (ss.take ol)) st.words := by unfold stepL; rw [if_pos o1]
      have hAs : stepA (runL [] (ss.take ol)) st = ⟨[], [], 0⟩ := by unfold stepA; rw [if_pos o1]
      refine fin w8 F8 (by rw [hLs]; exact h8) (fun b hb => ?_) ?_ ?_
      · rcases hF8 b hb with h | h
        · exact .inl h
        · have := f7.size; exact .inr (by omega)
      · exact ((f16.trans f7 fun _ h => h.elim).mono fun _ h => h.elim).trans f8 fun b hb => .inl hb
      · rw [hAs]
        exact (A6.fr0 f7).fr_ty f8 h7.ty (by decide)
    rw [show (st.op == 1) = false from beq_eq_false_iff_ne.2 o1, BIf_false]
    have hLs : stepL (runL [] (ss.take ol)) st = runL [] (ss.take ol) := by unfold stepL; rw [if_neg o1]
    by_cases o2 : st.op = 2
    · rw [show (st.op == 2) = true by rw [o2]; rfl, BIf_true]
      refine load_slice (i := 1) hb6 rfl ?_
      refine F9_call (F9_spec hI6 (by omega) fun w7 p7 c7 O7 hp7 f7 => back_slice ?_)
      have h7 := h6.fr f7 fun _ _ => id
      refine F10_call (F10_spec h7 O7 (by omega) fun w8 p8 c8 O8 hp8 f8 => back_slice ?_)
      have h8 := h7.fr f8 fun _ _ => id
      have A8 := (A6.fr0 f7).fr0 f8
      have hAs : stepA (runL [] (ss.take ol)) st = ansO (st.words.map fun x => look x.1 (runL [] (ss.take ol))) := by unfold stepA; rw [if_neg o1, if_pos o2]
      have hln : st.words.length = (st.words.map fun x => look x.1 (runL [] (ss.take ol))).length := by simp
      rw [hln] at O8 ⊢
      refine F6_L2_spec A8 O8 (by rw [← hln]; omega) fun w9 A9 f9 => ?_
      have f18 : Fr (fun _ => False) w1 w8 := (f16.trans f7 fun _ h => h.elim).trans f8 fun _ h => h.elim
      have hz18 := f18.size
      have f19 : Fr (fun _ => False) w1 w9 := f18.trans (S' := fun b => n2 ≤ b) f9.fr' fun b hb => .inr (by have hb : n2 ≤ b := hb; omega)
      refine fin w9 F1 (by rw [hLs]; exact h8.fr f9.fr' fun b hb hn => by have := h1.lt hb; have hn : n2 ≤ b := hn; omega) (fun b hb => .inl hb) (f19.mono fun _ h => h.elim) (by rw [hAs]; exact A9)
    rw [show (st.op == 2) = false from beq_eq_false_iff_ne.2 o2, BIf_false]
    have o4 : st.op = 4 := by rcases hop1 with h | h | h <;> omega
    rw [show (st.op == 3) = false from beq_eq_false_iff_ne.2 (by omega), BIf_false, show (st.op == 4) = true by rw [o4]; rfl, BIf_true]
    have hAs : stepA (runL [] (ss.take ol)) st = ⟨[], [], (runL [] (ss.take ol)).length⟩ := by unfold stepA; rw [if_neg o1, if_neg o2]
    refine F13_call (F13_spec h6 (back_int ?_))
    refine store_intro (i := 2) b6 (by simp) rfl fun w7 b7 f7 z7 => ?_
    refine fin w7 F1 ?_ (fun b hb => .inl hb) ?_ ?_
    · rw [hLs]; exact h6.fr f7 fun b hb e => by have := h1.lt hb; have e : b = n2 := e; omega
    · exact (f16.trans f7 fun b e => .inr (by have e : b = n2 := e; omega)).mono fun _ h => h.elim
    · rw [hAs]
      exact ⟨none, 0, none, 0, b7, SlO.nil _ _, SlO.nil _ _, Nat.le_refl _, (fun b ⟨_, h, _⟩ => by cases h), (fun b ⟨_, h, _⟩ => by cases h)⟩
  · rw [decide_eq_false (show ¬ ((ol : Nat) : Int) < ((ss.length : Nat) : Int) by omega), BIf_false]
    have : ol = ss.length := by omega
    subst this
    rw [List.take_length] at O1
    exact hk w1 op oc O1.sl f1
end
end Go.Proofs.Ytofnapddoiodkaa.E
