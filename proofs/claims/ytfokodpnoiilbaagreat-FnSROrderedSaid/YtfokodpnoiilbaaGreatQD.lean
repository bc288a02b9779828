/-
  Range trees of skip lists: the steps of a statement (rtSteps).
-/
import Derived.Test.YtfokodpnoiilbaaGreatQC
namespace Go.Proofs.YtfokodpnoiilbaaGreat.E
open Go
set_option linter.unusedSimpArgs false
set_option linter.unusedVariables false
set_option maxRecDepth 100000
set_option maxHeartbeats 8000000

section
variable {w : World} {k : Value → W} {n : Nat} {mp kp : Option Addr} {mc kc : Nat} {rs : List (Nat → Int)} {ks : List Int}
/-- rtSteps. -/
theorem F4_spec (hn : n ≤ 3) (hM : Sl MvK w mp rs) (hpos : ∀ r ∈ rs, Pos3 r) (hK : Sl InK3 w kp ks) (hks : ∀ v ∈ ks, v = 1 ∨ v = 2 ∨ v = 3 ∨ v = 4 ∨ v = 6) (hk0 : 0 < ks.length) (hkl : ks.length < 100)
    (hk : ∀ w' p c es, StD w' w.heap.size p es.length c es → (∀ e ∈ es, okE n e) → es.length ≤ 61 → totE es ≤ 61 → Fr (fun _ => False) w w' → k (.slice p es.length c) w') : F4 k ((n : Nat) : Int) mp rs.length mc kp ks.length kc w := by
  unfold F4
  refine F4_L1_rule (I := fun dn mp' ml mc' kp' kl kc' sp sl sc nn i w' => dn = ((n : Nat) : Int) ∧ mp' = mp ∧ ml = rs.length ∧ kp' = kp ∧ kl = ks.length ∧ ∃ (t : Nat) (es : List EnD), nn = ((t : Nat) : Int) ∧ i = ((t : Nat) : Int) ∧ t ≤ 60 ∧ sl = es.length ∧ StD w' w.heap.size sp es.length sc es ∧ (∀ e ∈ es, okE n e) ∧ es.length ≤ t ∧ totE es ≤ t ∧ Fr (fun _ => False) w w')
    (μ := fun dn mp' ml mc' kp' kl kc' sp sl sc nn i w' => 61 - i.toNat) ?_ ⟨rfl, rfl, rfl, rfl, rfl, 0, [], rfl, rfl, by omega, rfl, ⟨OwnN.nil _ _ _, rfl, (fun b ⟨_, h, _⟩ => by cases h), (fun e he => by cases he), List.Pairwise.nil⟩, (fun e he => by cases he), Nat.le_refl _, Nat.le_refl _, Fr.refl _ _⟩
  rintro dn mp' ml mc' kp' kl kc' sp sl sc nn i w1 ⟨rfl, e1, e2, e3, e4, t, es, rfl, rfl, ht, e5, hS, hok, hel, het, f1⟩
  unfold F4_L1
  rw [e1, e2, e3, e4, e5]
  have z1 := f1.size
  have j2 : F4_J2 k sp es.length sc w1 := F4_J2_spec hS z1 hok (by omega) (by omega) fun w' p c es' h1 h2 h3 h4 h5 => hk w' p c es' h1 h2 h3 h4 (f1.trans h5 fun b hb => .inr hb)
  by_cases hlt : t < rs.length
  · rw [decide_eq_true (show ((t : Nat) : Int) < ((rs.length : Nat) : Int) by omega), BIf_true]
    by_cases h60 : t < 60
    · rw [decide_eq_true (show ((t : Nat) : Int) < 60 by omega), BIf_true]
      have hm : rs[t]? = some rs[t] := List.getElem?_eq_getElem hlt
      have hmm : rs[t] ∈ rs := List.getElem_mem hlt
      generalize rs[t] = r at hm hmm
      obtain ⟨mq, mo, ep, hP⟩ := (hM.fr0 f1).get hm
      have hc : ∀ j, j < 8 → w1.cell? ⟨mq, mo + t * 8 + j, none⟩ = some (.int .i8 (r j)) := fun j hj => hP j hj
      rw [ep]
      simp only [NN_mk, Int.toNat_natCast, add_mk]
      refine Req_iff.2 ⟨by omega, LoadT_int.2 ⟨_, hc 0 (by omega), LoadT_int.2 ⟨_, hc 1 (by omega), LoadT_int.2 ⟨_, hc 2 (by omega), LoadT_int.2 ⟨_, hc 3 (by omega), LoadT_int.2 ⟨_, hc 4 (by omega), LoadT_int.2 ⟨_, hc 5 (by omega), LoadT_int.2 ⟨_, hc 6 (by omega), LoadT_int.2 ⟨_, hc 7 (by omega), ?_⟩⟩⟩⟩⟩⟩⟩⟩⟩
      refine new_intro fun n20 w2 e4' b2 f2 z2 => ?_
      refine store_intro (i := 0) b2 (by simp) rfl fun w3 b3 f3 z3 => ?_
      refine store_intro (i := 1) b3 (by simp) rfl fun w4 b4 f4 z4 => ?_
      refine store_intro (i := 2) b4 (by simp) rfl fun w5 b5 f5 z5 => ?_
      refine store_intro (i := 3) b5 (by simp) rfl fun w6 b6 f6 z6 => ?_
      refine store_intro (i := 4) b6 (by simp) rfl fun w7 b7 f7 z7 => ?_
      refine store_intro (i := 5) b7 (by simp) rfl fun w8 b8 f8 z8 => ?_
      refine store_intro (i := 6) b8 (by simp) rfl fun w9 b9 f9 z9 => ?_
      refine store_intro (i := 7) b9 (by simp) rfl fun wa ba fa za => ?_
      have ba : Blk wa n20 45 (mvV r) := ba
      have i : ∀ x, x = n20 → x = n20 ∨ w1.heap.size ≤ x := fun _ h => .inl h
      have f1a : Fr (fun _ => False) w1 wa := by
        have : Fr (fun b => b = n20) w1 wa := ((((((((f2.mono (S' := fun b => b = n20) fun _ h => h.elim).trans f3 i).trans f4 i).trans f5 i).trans f6 i).trans f7 i).trans f8 i).trans f9 i).trans fa i
        exact this.mono fun b h => .inr (by have h : b = n20 := h; omega)
      refine Req_iff.2 ⟨by decide, load_int (i := 0) ba rfl (Req_iff.2 ⟨by omega, ?_⟩)⟩
      -- the kind of the step
      obtain ⟨ix, hix, hixl⟩ : ∃ ix : Nat, remI (IntKind.wrap .i64 (IntKind.wrap .u8 (r 0))) ((ks.length : Nat) : Int) = ((ix : Nat) : Int) ∧ ix < ks.length := by
        obtain ⟨u1, u2⟩ := wrap_u8_rng (r 0)
        rw [wrap_i64 (by omega) (by omega), remI_eq u1]
        have h1 := Int.emod_nonneg (IntKind.wrap .u8 (r 0)) (show ((ks.length : Nat) : Int) ≠ 0 by omega)
        have h2 := Int.emod_lt_of_pos (IntKind.wrap .u8 (r 0)) (show (0 : Int) < ((ks.length : Nat) : Int) by omega)
        exact ⟨(IntKind.wrap .u8 (r 0) % ((ks.length : Nat) : Int)).toNat, by omega, by omega⟩
      rw [hix]
      have f0a := f1.trans f1a fun _ h => h.elim
      have hkx : ks[ix]? = some ks[ix] := List.getElem?_eq_getElem hixl
      have hkm : ks[ix] ∈ ks := List.getElem_mem hixl
      generalize ks[ix] = op at hkx hkm
      obtain ⟨kq, ko, ekp, hkc⟩ := (hK.fr0 f0a).get hkx
      have hkc : wa.cell? ⟨kq, ko + ix, none⟩ = some (.int .i64 op) := by
        have : wa.cell? ⟨kq, ko + ix * 1 + 0, none⟩ = some (.int .i64 op) := hkc
        rw [show ko + ix * 1 + 0 = ko + ix by omega] at this; exact this
      rw [ekp]
      simp only [NN_mk, Int.toNat_natCast, add_mk]
      refine Req_iff.2 ⟨by omega, LoadT_int.2 ⟨_, hkc, ?_⟩⟩
      refine load_int (i := 0) ba rfl (load_int (i := 1) ba rfl (load_int (i := 2) ba rfl (load_int (i := 3) ba rfl (load_int (i := 4) ba rfl (load_int (i := 5) ba rfl (load_int (i := 6) ba rfl (load_int (i := 7) ba rfl ?_)))))))
      have hp3 := hpos r hmm
      rw [addI_i64 (by omega) (by omega), show ((t : Nat) : Int) + 1 = ((t + 1 : Nat) : Int) by omega]
      refine F12_call (F12_pos hn (hp3 1 (by omega) (by omega)) (hp3 2 (by omega) (by omega)) (hp3 3 (by omega) (by omega)) fun wb xp xc l hll hlv hSl fb => back_si ?_)
      subst hll
      refine F11_call (F11_spec hSl (by omega) fun wc yp yc hSc fc => back_si ?_)
      refine new_intro fun n36 wd ed bd fd zd => ?_
      refine store_intro (i := 0) bd (by simp) rfl fun we be fe ze => ?_
      refine store_intro (i := 1) be (by simp) rfl fun wf bf ff zf => ?_
      have bf : Blk wf n36 42 [.slice yp l.length yc, .int .i64 ((t + 1 : Nat) : Int)] := bf
      have fcf : Fr (fun _ => False) wc wf := by
        have : Fr (fun b => b = n36) wc wf := ((fd.mono (S' := fun b => b = n36) fun _ h => h.elim).trans fe fun _ h => .inl h).trans ff fun _ h => .inl h
        exact this.mono fun b h => .inr (by have h : b = n36 := h; omega)
      have faf : Fr (fun _ => False) wa wf := (fb.trans fc fun _ h => h.elim).trans fcf fun _ h => h.elim
      have f1f := f1a.trans faf fun _ h => h.elim
      have f0f := f1.trans f1f fun _ h => h.elim
      have bm := ba.fr faf id
      have hSf := hS.fr0 f1f
      have hSy := hSc.fr0 fcf
      have z0f := f0f.size
      have hopk : op = 1 ∨ op = 2 ∨ op = 3 ∨ op = 4 ∨ op = 6 := hks op hkm
      have hpp : PosP (l, ((t + 1 : Nat) : Int)) := posP_of hlv
      have okapp : ∀ e : EnD, e.op = op → e.dots = [(l, ((t + 1 : Nat) : Int))] → e.low.length = l.length → e.high.length = l.length → (∀ v ∈ e.low, 0 ≤ v ∧ v < 12) → (∀ v ∈ e.high, 0 ≤ v ∧ v < 28) → ∀ e' ∈ es ++ [e], okE l.length e' := fun e g1 g2 g3 g4 gl gh e' he' => by
        rcases List.mem_append.1 he' with h | h
        · exact hok e' h
        · rw [List.mem_singleton] at h; subst h
          refine ⟨by rw [g1]; exact hopk, fun x hx => ?_, by omega, by omega, gl, gh, fun _ => g4⟩
          rw [g2, List.mem_singleton] at hx
          rw [hx]; exact ⟨rfl, hpp⟩
      refine Req_iff.2 ⟨by decide, load_int (i := 0) bm rfl (Req_iff.2 ⟨by decide, ?_⟩)⟩
      refine BIf_intro (fun hq => BIf_intro (fun hq2 => ?_) fun hq2 => ?_) fun hq => ?_
      · have hpos2 : 0 < es.length := by have := of_decide_eq_true hq2; omega
        obtain ⟨pre, la, rfl⟩ : ∃ pre la, es = pre ++ [la] := ⟨es.dropLast, es.getLast (by intro h; rw [h] at hpos2; simp at hpos2), (List.dropLast_concat_getLast _).symm⟩
        have hlen : (pre ++ [la]).length = pre.length + 1 := by simp
        rw [hlen] at hel hSf ⊢
        obtain ⟨q, rest, rfl, hB⟩ := hSf.own.get (by omega)
        have esub : subI .i64 ((pre.length + 1 : Nat) : Int) 1 = ((pre.length : Nat) : Int) := by rw [subI_i64 (by omega) (by omega)]; omega
        rw [esub]
        have hla : (pre ++ [la])[pre.length]? = some la := by rw [List.getElem?_append_right (Nat.le_refl _), Nat.sub_self]; rfl
        have hc0 : wf.cell? ⟨q, 0 + pre.length * 9, none⟩ = some (.int .i64 la.op) := by
          rw [Nat.zero_add, hSf.own.cell (by omega), ← Nat.add_zero (pre.length * 9), flatD_get _ _ 0 la hla (by omega)]; rfl
        rw [NN_mk, Int.toNat_natCast, add_mk]
        refine Req_iff.2 ⟨by omega, LoadT_int.2 ⟨_, hc0, ?_⟩⟩
        have hlo := hok la (List.mem_append_right _ (List.mem_singleton.2 rfl))
        have hlt2 : totE (pre ++ [la]) = totE pre + la.dots.length := by rw [totE_app]; unfold totE; simp
        refine BIf_intro (fun hq3 => ?_) fun hq3 => ?_
        · by_cases h3 : op ≤ 3
          · rw [decide_eq_true h3]
            refine F4_J1t rfl hSf (by omega) (by omega) (by omega) (fun hb' => by have := (hSf.en la (List.mem_append_right _ (List.mem_singleton.2 rfl))).1.blk hb'; have := (hS.en la (List.mem_append_right _ (List.mem_singleton.2 rfl))).1.lt hb'; have := faf.size; have := f1a.size; have := fb.size; have := fc.size; omega) bf hSy fun w' p' c' g5 g6 => ?_
            rw [addI_i64 (by omega) (by omega), show ((t : Nat) : Int) + 1 = ((t + 1 : Nat) : Int) by omega]
            refine ⟨⟨by trivial, by trivial, by trivial, by trivial, by trivial, t + 1, pre ++ [{ la with dp := p', dots := la.dots ++ [(l, ((t + 1 : Nat) : Int))], dc := c' }], by trivial, by trivial, by omega, by simp, by rw [List.length_append]; exact g5, fun e' he' => ?_, by simp; omega, ?_, f0f.trans g6 fun b hb => .inr hb⟩, by show 61 - ((t + 1 : Nat) : Int).toNat < 61 - ((t : Nat) : Int).toNat; omega⟩
            · rcases List.mem_append.1 he' with h | h
              · exact hok e' (List.mem_append_left _ h)
              · rw [List.mem_singleton] at h; subst h
                refine ⟨hlo.op, fun x hx => ?_, hlo.ll, hlo.hl, hlo.lo, hlo.hi, hlo.h4⟩
                rcases List.mem_append.1 hx with hx | hx
                · exact hlo.dots x hx
                · rw [List.mem_singleton] at hx; rw [hx]; exact ⟨rfl, hpp⟩
            · rw [totE_app]; unfold totE at hlt2 het ⊢; simp at hlt2 het ⊢; omega
          · rw [decide_eq_false h3]
            have hSf' : StD wf w.heap.size (some ⟨q, 0, none⟩) (pre ++ [la]).length sc (pre ++ [la]) := by rw [hlen]; exact hSf
            rw [← hlen]
            refine F4_J1f hn hp3 hSf' (by omega) (by omega) bm bf hSy fun w' p' c' e g1 g2 g3 g4 gl gh g5 g6 => ?_
            generalize pre ++ [la] = es at *
            rw [addI_i64 (by omega) (by omega), show ((t : Nat) : Int) + 1 = ((t + 1 : Nat) : Int) by omega]
            refine ⟨⟨by trivial, by trivial, by trivial, by trivial, by trivial, t + 1, es ++ [e], by trivial, by trivial, by omega, by simp, by rw [List.length_append]; exact g5, okapp e g1 g2 g3 g4 gl gh, by simp; omega, by rw [totE_app, show totE [e] = 1 by unfold totE; simp [g2]]; omega, f0f.trans g6 fun b hb => .inr hb⟩, by show 61 - ((t + 1 : Nat) : Int).toNat < 61 - ((t : Nat) : Int).toNat; omega⟩
        · have hSf' : StD wf w.heap.size (some ⟨q, 0, none⟩) (pre ++ [la]).length sc (pre ++ [la]) := by rw [hlen]; exact hSf
          rw [← hlen]
          refine F4_J1f hn hp3 hSf' (by omega) (by omega) bm bf hSy fun w' p' c' e g1 g2 g3 g4 gl gh g5 g6 => ?_
          generalize pre ++ [la] = es at *
          rw [addI_i64 (by omega) (by omega), show ((t : Nat) : Int) + 1 = ((t + 1 : Nat) : Int) by omega]
          refine ⟨⟨by trivial, by trivial, by trivial, by trivial, by trivial, t + 1, es ++ [e], by trivial, by trivial, by omega, by simp, by rw [List.length_append]; exact g5, okapp e g1 g2 g3 g4 gl gh, by simp; omega, by rw [totE_app, show totE [e] = 1 by unfold totE; simp [g2]]; omega, f0f.trans g6 fun b hb => .inr hb⟩, by show 61 - ((t + 1 : Nat) : Int).toNat < 61 - ((t : Nat) : Int).toNat; omega⟩
      · refine F4_J1f hn hp3 hSf (by omega) (by omega) bm bf hSy fun w' p' c' e g1 g2 g3 g4 gl gh g5 g6 => ?_
        rw [addI_i64 (by omega) (by omega), show ((t : Nat) : Int) + 1 = ((t + 1 : Nat) : Int) by omega]
        refine ⟨⟨by trivial, by trivial, by trivial, by trivial, by trivial, t + 1, es ++ [e], by trivial, by trivial, by omega, by simp, by rw [List.length_append]; exact g5, okapp e g1 g2 g3 g4 gl gh, by simp; omega, by rw [totE_app, show totE [e] = 1 by unfold totE; simp [g2]]; omega, f0f.trans g6 fun b hb => .inr hb⟩, by show 61 - ((t + 1 : Nat) : Int).toNat < 61 - ((t : Nat) : Int).toNat; omega⟩
      · refine F4_J1f hn hp3 hSf (by omega) (by omega) bm bf hSy fun w' p' c' e g1 g2 g3 g4 gl gh g5 g6 => ?_
        rw [addI_i64 (by omega) (by omega), show ((t : Nat) : Int) + 1 = ((t + 1 : Nat) : Int) by omega]
        refine ⟨⟨by trivial, by trivial, by trivial, by trivial, by trivial, t + 1, es ++ [e], by trivial, by trivial, by omega, by simp, by rw [List.length_append]; exact g5, okapp e g1 g2 g3 g4 gl gh, by simp; omega, by rw [totE_app, show totE [e] = 1 by unfold totE; simp [g2]]; omega, f0f.trans g6 fun b hb => .inr hb⟩, by show 61 - ((t + 1 : Nat) : Int).toNat < 61 - ((t : Nat) : Int).toNat; omega⟩
    · rw [decide_eq_false (show ¬ ((t : Nat) : Int) < 60 by omega), BIf_false]
      exact j2
  · rw [decide_eq_false (show ¬ ((t : Nat) : Int) < ((rs.length : Nat) : Int) by omega), BIf_false]
    exact j2
end
end Go.Proofs.YtfokodpnoiilbaaGreat.E
