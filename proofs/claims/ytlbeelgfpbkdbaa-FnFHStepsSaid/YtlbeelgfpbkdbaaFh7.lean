/-
  The least entry is dequeued, the whole.
-/
import Derived.Test.YtlbeelgfpbkdbaaFh6
namespace Go.Proofs.Ytlbeelgfpbkdbaa.E
open Go
set_option linter.unusedSimpArgs false
set_option linter.unusedVariables false
set_option maxRecDepth 100000
set_option maxHeartbeats 8000000

theorem erase_len {D : List Nat} {m : Nat} (h : m ∈ D) : (D.erase m).length + 1 = D.length := by
  have := List.length_erase_of_mem h
  have := List.length_pos_of_mem h
  omega
/-- DequeueMin, of a heap that is not empty. -/
theorem F20_spec {k : Value → W} {w : World} {hb : Nat} {D : List Nat} {pr : Nat → Int} {m : Nat} (H : HP w hb D pr (some m)) (hDl : D.length < 1000)
    (hk : ∀ m' w', HP w' hb (D.erase m) pr m' → (∃ vs, Blk w' m 69 vs ∧ vs[6]? = some (.float .f64 (fB (pr m)))) → Fr (fun y => y = hb ∨ y ∈ D) w w' → k (.tuple #[.pointer (some ⟨m, 0, none⟩), .nilIface]) w') : F20 k (some ⟨hb, 0, none⟩) w := by
  have hne := fun y hy => H.ne (x := y) hy
  obtain ⟨s, R, C, h, H⟩ := H
  have hpe := H.pe
  subst hpe
  have F := H.fo
  have hRD : ∀ y ∈ R, y ∈ D := fun y hy => ((F.Rm y).1 hy).1
  obtain ⟨hmR, hmin⟩ : m ∈ R ∧ ∀ y ∈ D, s.pr m ≤ s.pr y := by
    rcases H.mn with ⟨_, h⟩ | ⟨z, hz, h1, h2⟩
    · cases h
    · cases h1; exact ⟨hz, h2⟩
  have hmD := hRD m hmR
  have hDe := erase_len hmD
  have hDm : ∀ y, y ∈ D.erase m ↔ y ≠ m ∧ y ∈ D := fun y => F.Dn.mem_erase_iff
  have hCD : ∀ b ∈ D, ∀ y ∈ C b, y ∈ D := fun b hb y hy => ((F.Cm b hb y).1 hy).1
  have hnR : ∀ b ∈ D, ∀ y ∈ C b, y ∉ R := fun b hb y hy hr => F.not_root hb hy hr rfl
  have hmC : m ∉ C m := fun hc => hnR m hmD m hc hmR
  obtain ⟨t, q1, q2, q3⟩ := ring_from H.rr F.Rn hmR
  have hmt : m ∉ t := (List.nodup_cons.1 q2).1
  have htR : ∀ y ∈ t, y ∈ R := fun y hy => (q3 y).1 (List.mem_cons_of_mem _ hy)
  unfold F20
  refine F16_call (F16_spec H.hd (back_bool ?_))
  rw [decide_eq_false (by omega)]
  simp only [BIf_false, NN_mk]
  refine load_int (i := 1) H.hd rfl ?_
  refine store_intro (i := 1) H.hd (by simp) rfl fun w1 b1 f1 z1 => ?_
  have hsz : subI .u64 ((D.length : Nat) : Int) 1 = (((D.erase m).length : Nat) : Int) := by rw [subI_u64 (by omega) (by omega)]; omega
  rw [hsz] at b1
  have b1 : Blk w1 hb 45 [.pointer (some ⟨m, 0, none⟩), .int .u64 ((D.erase m).length : Nat)] := b1
  have h1 : MS w1 D s := H.ms.fr f1 fun y hy e => hne y hy e.symm
  have F1 : Fr (fun y => y = hb ∨ y ∈ D) w w1 := f1.mono fun y e => .inl (.inl e)
  refine load_ptr (i := 0) b1 rfl ?_
  simp only [NN_mk]
  refine ld_nx h1 hmD ?_
  -- from the children on
  have J2 : ∀ (s2 : St) (w2 : World), MS w2 D s2 → (s2.pa = fun y => if y ∈ C m then none else s.pa y) → s2.ch = s.ch → s2.dg = s.dg → s2.pr = s.pr → Ring s2.nx s2.pv t → (∀ y, y ∉ R → s2.nx y = s.nx y ∧ s2.pv y = s.pv y) → Blk w2 hb 45 [.pointer (oA t.head?), .int .u64 ((D.erase m).length : Nat)] → Fr (fun y => y = hb ∨ y ∈ D) w w2 → F20_J2 k (some ⟨hb, 0, none⟩) (some ⟨m, 0, none⟩) w2 := by
    intro s2 w2 h2 e_pa e_ch e_dg e_pr rt hoth B2 f2
    have rC2 : ∀ b ∈ D, Ring s2.nx s2.pv (C b) := fun b hb => ring_congr (F.Cr b hb) (fun y hy => (hoth y (hnR b hb y hy)).1) fun y hy => (hoth y (hnR b hb y hy)).2
    have or2 : ∀ s3 : St, s3.pa = s2.pa → s3.pr = s2.pr → Ordd s3 (D.erase m) := fun s3 e1 e2 y hy b hb => by
      rw [e1, e_pa] at hb
      have hb : (if y ∈ C m then none else s.pa y) = some b := hb
      rw [e2, e_pr]
      by_cases hc : y ∈ C m
      · rw [if_pos hc] at hb; cases hb
      · rw [if_neg hc] at hb; exact H.or y ((hDm y).1 hy).2 b hb
    have hexm : ∀ {w'} {s'}, MS w' D s' → s'.pr = s.pr → Blk w' m 69 (ndc s' m) ∧ (ndc s' m)[6]? = some (.float .f64 (fB (s.pr m))) := fun hm he => ⟨hm m hmD, by rw [← he]; rfl⟩
    -- what goes on behind the merge
    have rest : ∀ (s3 : St) (R3 : List Nat) (o : Option Nat) (w3 : World), MS w3 D s3 → s3.pa = s2.pa → s3.ch = s2.ch → s3.dg = s2.dg → s3.pr = s2.pr → Ring s3.nx s3.pv R3 → R3.Nodup → (∀ y, y ∈ R3 ↔ y ∈ t ∨ y ∈ C m) → (∀ b ∈ D, b ≠ m → Ring s3.nx s3.pv (C b)) → ((o = none ∧ R3 = []) ∨ ∃ r ∈ R3, o = some r) → Blk w3 hb 45 [.pointer (oA t.head?), .int .u64 ((D.erase m).length : Nat)] → Fr (fun y => y = hb ∨ y ∈ D) w w3 →
        (NN (some (⟨hb, 0, none⟩ : Addr)) fun a35 => Store1 a35 (.pointer (oA o)) <| NN (some (⟨hb, 0, none⟩ : Addr)) fun a36 => LoadT .ptr a36 fun p37 => BIf p37.isNone (k (.tuple #[.pointer (some ⟨m, 0, none⟩), .nilIface])) (NN (some (⟨hb, 0, none⟩ : Addr)) fun a38 => LoadT (.int .u64) (a38.add 1) fun x39 => RawT Go.Proofs.Try.prog (Instr.makeSlice 49 (.int .i64 0) (.int .u64 x39)) (.s (.one .slice)) fun s40p s40l s40c => NN (some (⟨hb, 0, none⟩ : Addr)) fun a41 => LoadT (.int .u64) (a41.add 1) fun x42 => RawT Go.Proofs.Try.prog (Instr.makeSlice 49 (.int .i64 0) (.int .u64 x42)) (.s (.one .slice)) fun s43p s43l s43c => NN (some (⟨hb, 0, none⟩ : Addr)) fun a44 => LoadT .ptr a44 fun p45 => Loop [.ptr, .ptr, .slice, .slice, .ptr] (F20_L2 k) (some ⟨hb, 0, none⟩) (some ⟨m, 0, none⟩) s40p s40l s40c s43p s43l s43c p45)) w3 := by
      intro s3 R3 o w3 h3 e1 e2 e3 e4 r3 n3 m3 rC3 ho B3 f3
      simp only [NN_mk]
      refine store_intro (i := 0) B3 (by simp) rfl fun w4 B4 f4 z4 => ?_
      have h4 : MS w4 D s3 := h3.fr f4 fun y hy e => hne y hy e.symm
      have F4 : Fr (fun y => y = hb ∨ y ∈ D) w w4 := f3.trans f4 fun y e => .inl (.inl e)
      have G : For s3 (D.erase m) R3 C h := by
        refine F.del hmR (by rw [e1, e_pa]) (by rw [e2, e_ch]) (by rw [e3, e_dg]) rC3 (fun y => ?_) n3
        rw [m3]
        constructor
        · rintro (h | h)
          · exact .inl ⟨htR y h, fun e => hmt (e ▸ h)⟩
          · exact .inr h
        · rintro (⟨h, h'⟩ | h)
          · have := (q3 y).2 h
            simp only [List.mem_cons] at this
            exact .inl (this.resolve_left h')
          · exact .inr h
      have hms' : MS w4 (D.erase m) s3 := fun y hy => h4 y ((hDm y).1 hy).2
      have oo := or2 s3 e1 e4
      have epr : s3.pr = s.pr := by rw [e4, e_pr]
      refine load_ptr (i := 0) B4 rfl ?_
      rcases ho with ⟨rfl, rfl⟩ | ⟨r, hr, rfl⟩
      · simp only [oA_none, Option.isNone_none, BIf_true]
        have hnil : D.erase m = [] := List.eq_nil_iff_forall_not_mem.2 fun y hy => by
          obtain ⟨r, hr, _⟩ := G.root_le oo hy
          cases hr
        refine hk none w4 ⟨s3, [], C, h, hms', G, r3, oo, epr, B4, fun y hy => H.ft y ((hDm y).1 hy).2, .inl ⟨hnil, rfl⟩⟩ ⟨_, hexm h4 epr⟩ F4
      · simp only [oA_some, Option.isNone_some, BIf_false, NN_mk]
        obtain ⟨u, u1, u2, u3⟩ := ring_from r3 n3 hr
        have B4' : Blk w4 hb 45 [.pointer (some ⟨r, 0, none⟩), .int .u64 ((D.erase m).length : Nat)] := B4
        obtain ⟨ii, g1, g2, g3, g4⟩ := inf42
        refine load_int (i := 1) B4' rfl ?_
        refine make_intro (P := Try.prog) 0 (D.erase m).length und49 g1 g2 g3 rfl (by omega) (by omega) (Nat.zero_le _) fun w5 f5 o5 b5 z5 => ?_
        refine load_int (i := 1) (B4'.fr f5 id) rfl ?_
        refine make_intro (P := Try.prog) 0 (D.erase m).length und49 g1 g2 g3 rfl (by omega) (by omega) (Nat.zero_le _) fun w6 f6 o6 b6 z6 => ?_
        have f46 := f5.trans f6 fun _ h => h.elim
        refine load_ptr (i := 0) (B4'.fr f46 id) rfl ?_
        have hVD : ∀ z ∈ r :: u, z ∈ D.erase m := fun z hz => ((G.Rm z).1 ((u3 z).1 hz)).1
        have hVl : (r :: u).length ≤ (D.erase m).length := len_le_of u2 hVD
        refine F20_L2_spec (w00 := w) (hb := hb) (xm := m) (xvs := ndc s3 m) (D0 := D) (D := D.erase m) (pr := s.pr) (V := r :: u) (fun z hz => ((hDm z).1 hz).2) (fun hm => ((hDm m).1 hm).1 rfl) (fun z hz => H.ft z ((hDm z).1 hz).2) (by omega) u2 (by simp) (by omega) (fun w' m' H' hx' f' => hk (some m') w' H' ⟨_, hx', (hexm h4 epr).2⟩ f') (w1 := w4) (s := s3) (R := R3) (C := C) (h := h) (m := r) hms' G oo epr (fun z => (u3 z).symm) u1 r3 rfl B4' (hexm h4 epr).1 F4 f46 (o5.fr f6 fun _ _ h => h) o6 (fun b ⟨a, ha, e⟩ => by cases ha; exact Nat.le_of_eq e) (fun b ⟨a, ha, e⟩ => by cases ha; have e : w5.heap.size = b := e; have := f5.size; omega) (fun b ⟨a, ha, e⟩ ⟨a', ha', e'⟩ => by cases ha; cases ha'; have e : w4.heap.size = b := e; have e' : w5.heap.size = b := e'; omega)
    unfold F20_J2
    refine drw_intro fun w2' f2' z2' => ?_
    have h2' := h2.fr0 f2'
    have B2' := B2.fr f2' id
    have F2' : Fr (fun y => y = hb ∨ y ∈ D) w w2' := f2.trans f2' fun _ h => h.elim
    simp only [NN_mk]
    refine load_ptr (i := 0) B2' rfl ?_
    refine ld_ch h2' hmD ?_
    have hch : s2.ch m = (C m).head? := by rw [e_ch]; exact F.ch m hmD
    rw [hch]
    have hCn := F.Cn m hmD
    cases ht : t with
    | nil =>
      refine F26_call (F26_none1 (back_ptr ?_))
      rw [ht] at rest
      refine rest s2 (C m) (C m).head? w2' h2' rfl rfl rfl rfl (rC2 m hmD) hCn (fun y => by simp) (fun b hb _ => rC2 b hb) ?_ (by rw [ht] at B2'; exact B2') F2'
      cases hC : C m with
      | nil => exact .inl ⟨rfl, rfl⟩
      | cons a cs => exact .inr ⟨a, by simp, rfl⟩
    | cons a t' =>
      have haR : a ∈ R := htR a (by rw [ht]; simp)
      rw [ht] at rt
      have htn : (a :: t').Nodup := by rw [← ht]; exact (List.nodup_cons.1 q2).2
      cases hC : C m with
      | nil =>
        refine F26_call (F26_none2 (back_ptr ?_))
        have := rest s2 (a :: t') (some a) w2' h2' rfl rfl rfl rfl rt htn (fun y => by rw [ht, hC]; simp) (fun b hb _ => rC2 b hb) (.inr ⟨a, by simp, rfl⟩) B2' F2'
        exact this
      | cons c cs =>
        have hcC : c ∈ C m := by rw [hC]; simp
        have rc : Ring s2.nx s2.pv (c :: cs) := by rw [← hC]; exact rC2 m hmD
        rw [hC] at hCn
        have htC : ∀ y ∈ a :: t', ∀ z ∈ c :: cs, y ≠ z := fun y hy z hz e => by
          subst e
          exact hnR m hmD y (by rw [hC]; exact hz) (htR y (by rw [ht]; exact hy))
        have nd2 : (a :: t' ++ c :: cs).Nodup := List.nodup_append.2 ⟨htn, hCn, htC⟩
        have rm := ring_merge rt rc nd2
        have hna := (ring_mem_nx rt (x := a) (by simp)).1
        have hnc := (ring_mem_nx rc (x := c) (by simp)).1
        have hnaR : s2.nx a ∈ R := htR _ (by rw [ht]; exact hna)
        have hncC : s2.nx c ∈ C m := by rw [hC]; exact hnc
        have hp1 : (a :: t' ++ c :: cs).Perm (a :: (cs ++ c :: t')) := by
          simp only [List.cons_append]
          have h1 : (t' ++ c :: cs).Perm (c :: cs ++ t') := List.perm_append_comm
          have h2 : (c :: cs ++ t').Perm (cs ++ c :: t') := by simp only [List.cons_append]; exact List.perm_middle.symm
          exact (h1.trans h2).cons a
        refine F26_call (F26_both h2' (hRD a haR) (hCD m hmD c hcC) (hRD _ hnaR) (hCD m hmD _ hncC) (by rw [e_pr]; exact H.ft a (hRD a haR)) (by rw [e_pr]; exact H.ft c (hCD m hmD c hcC)) fun w3 h3 f3 z3 => back_ptr ?_)
        have hm3 : ∀ y, y ∈ a :: (cs ++ c :: t') ↔ y ∈ t ∨ y ∈ C m := fun y => by
          rw [← hp1.mem_iff, List.mem_append, ← ht, ← hC]
        have := rest { s2 with nx := up (up s2.nx a (s2.nx c)) c (s2.nx a), pv := up (up s2.pv (s2.nx c) a) (s2.nx a) c } (a :: (cs ++ c :: t')) (some (if s2.pr a < s2.pr c then a else c)) w3 h3 rfl rfl rfl rfl rm (hp1.nodup_iff.1 nd2) hm3 (fun b hb hbm => ?_) (.inr ⟨_, ?_, rfl⟩) (B2'.fr f3 fun hm => hne hb hm rfl) (F2'.trans f3 fun y e => .inl (.inr e))
        · exact this
        · have hdis : ∀ y ∈ C b, y ∉ C m ∧ y ∉ R := fun y hy => by
            refine ⟨fun hc => ?_, hnR b hb y hy⟩
            have h1 := ((F.Cm b hb y).1 hy).2
            have h2 := ((F.Cm m hmD y).1 hc).2
            rw [h1] at h2; cases h2; exact hbm rfl
          refine ring_congr (rC2 b hb) (fun y hy => ?_) fun y hy => ?_
          · show up (up s2.nx a (s2.nx c)) c (s2.nx a) y = _
            rw [up_ne _ _ (fun (e : y = c) => (hdis y hy).1 (e ▸ hcC)), up_ne _ _ (fun (e : y = a) => (hdis y hy).2 (e ▸ haR))]
          · show up (up s2.pv (s2.nx c) a) (s2.nx a) c y = _
            rw [up_ne _ _ (fun (e : y = s2.nx a) => (hdis y hy).2 (e ▸ hnaR)), up_ne _ _ (fun (e : y = s2.nx c) => (hdis y hy).1 (e ▸ hncC))]
        · rw [hm3, ht, hC]
          split <;> simp
  -- the children's parents
  have J1 : ∀ (s1 : St) (w2 : World), MS w2 D s1 → s1.pa = s.pa → s1.ch = s.ch → s1.dg = s.dg → s1.pr = s.pr → Ring s1.nx s1.pv t → (∀ y, y ∉ R → s1.nx y = s.nx y ∧ s1.pv y = s.pv y) → Blk w2 hb 45 [.pointer (oA t.head?), .int .u64 ((D.erase m).length : Nat)] → Fr (fun y => y = hb ∨ y ∈ D) w w2 → F20_J1 k (some ⟨hb, 0, none⟩) (some ⟨m, 0, none⟩) w2 := by
    intro s1 w2 h2 e_pa e_ch e_dg e_pr rt hoth B2 f2
    unfold F20_J1
    simp only [NN_mk]
    refine ld_ch h2 hmD ?_
    have hch : s1.ch m = (C m).head? := by rw [e_ch]; exact F.ch m hmD
    rw [hch]
    cases hC : C m with
    | nil =>
      simp only [List.head?_nil, oA_none, Option.isNone_none, Bool.not_true, BIf_false]
      exact J2 s1 w2 h2 (by rw [e_pa, hC]; funext y; simp) e_ch e_dg e_pr rt hoth B2 f2
    | cons c cs =>
      simp only [List.head?_cons, oA_some, Option.isNone_some, Bool.not_false, BIf_true, NN_mk]
      refine ld_ch h2 hmD ?_
      rw [hch, hC]
      have rC1 : Ring s1.nx s1.pv (c :: cs) := by
        rw [← hC]
        exact ring_congr (F.Cr m hmD) (fun y hy => (hoth y (hnR m hmD y hy)).1) fun y hy => (hoth y (hnR m hmD y hy)).2
      have hCn := F.Cn m hmD
      rw [hC] at hCn
      have hcD : ∀ y ∈ c :: cs, y ∈ D := fun y hy => hCD m hmD y (by rw [hC]; exact hy)
      let J : Nat → Option Addr → Option Addr → Option Addr → Bool → World → Prop := fun n hp' mp' cp ok w' => hp' = some ⟨hb, 0, none⟩ ∧ mp' = some ⟨m, 0, none⟩ ∧ ∃ A B, c :: cs = A ++ B ∧ B.length = n ∧ MS w' D { s1 with pa := fun y => if y ∈ A then none else s.pa y } ∧ Blk w' hb 45 [.pointer (oA t.head?), .int .u64 ((D.erase m).length : Nat)] ∧ ((B = [] ∧ ok = false) ∨ ∃ x B', B = x :: B' ∧ ok = true ∧ cp = some ⟨x, 0, none⟩) ∧ Fr (fun y => y = hb ∨ y ∈ D) w w'
      refine F20_L1_rule (fun hp' mp' cp ok w' => ∃ n, J n hp' mp' cp ok w') (fun hp' mp' cp ok w' => mn fun n => J n hp' mp' cp ok w') ?_ ⟨_, rfl, rfl, [], c :: cs, rfl, rfl, ?_, B2, .inr ⟨c, cs, rfl, rfl, rfl⟩, f2⟩
      rotate_left
      · have : ({ s1 with pa := fun y => if y ∈ ([] : List Nat) then none else s.pa y } : St) = s1 := by
          have e : (fun y => if y ∈ ([] : List Nat) then none else s.pa y) = s1.pa := by rw [e_pa]; funext y; simp
          rw [e]
        rw [this]; exact h2
      intro hp' mp' cp ok w3 hex
      have hJ := mn_spec hex
      generalize hn : (mn fun n => J n hp' mp' cp ok w3) = n at hJ
      obtain ⟨rfl, rfl, A, B, hAB, hBn, h3, B3, hB, f3⟩ := hJ
      unfold F20_L1
      rcases hB with ⟨rfl, rfl⟩ | ⟨x, B', rfl, rfl, rfl⟩
      · simp only [BIf_false]
        rw [List.append_nil] at hAB
        subst hAB
        exact J2 _ w3 h3 (by rw [hC]) e_ch e_dg e_pr rt hoth B3 f3
      · simp only [BIf_true, NN_mk]
        have hxm : x ∈ c :: cs := by rw [hAB]; simp
        have hxD := hcD x hxm
        refine st_pa (v := none) h3 hxD fun w4 h4 f4 z4 => ?_
        have hup : up (fun y => if y ∈ A then none else s.pa y) x none = fun y => if y ∈ A ++ [x] then none else s.pa y := by
          funext y
          by_cases e : y = x
          · subst e; rw [up_same]; simp
          · rw [up_ne _ _ e]; simp [e]
        have h4' : MS w4 D { s1 with pa := fun y => if y ∈ A ++ [x] then none else s.pa y } := by rw [← hup]; exact h4
        have B4 := B3.fr f4 fun e => hne x hxD e
        have F4 : Fr (fun y => y = hb ∨ y ∈ D) w w4 := f3.trans f4 fun y e => .inl (.inr (by have e : y = x := e; rw [e]; exact hxD))
        refine ld_nx h4' hxD ?_
        refine ld_ch h4' hmD ?_
        show (RawS Try.prog (binS .neq 42 _ _ (.pointer (some ⟨s1.nx x, 0, none⟩)) (.pointer (oA (s1.ch m)))) _ _) w4
        rw [hch, hC]
        have rx : Ring s1.nx s1.pv (x :: (B' ++ A)) := by
          rw [hAB] at rC1
          have := ring_swap (A := A) (B := x :: B') rC1
          simpa using this
        have hnx := (ring_nx rx).1
        have hnxD : s1.nx x ∈ D := hcD _ (by
          have := (ring_mem_nx rx (x := x) (by simp)).1
          rw [hAB]
          simp only [List.mem_append, List.mem_cons] at this ⊢
          rcases this with h | h | h
          · exact .inr (.inl h)
          · exact .inr (.inr h)
          · exact .inl h)
        refine ptr_neq (h4'.known hnxD) (h4'.known (hcD c (by simp))) ?_
        cases B' with
        | nil =>
          have hcx : s1.nx x = c := by
            rw [hnx]
            cases A with
            | nil => simp at hAB; simp [hAB.1]
            | cons a A => simp at hAB; simp [hAB.1]
          have hdec : decide ((some (⟨s1.nx x, 0, none⟩ : Addr)) ≠ some ⟨c, 0, none⟩) = false := by simp [hcx]
          show (_ ∧ _)
          have e0 : decide ((some (⟨s1.nx x, 0, none⟩ : Addr)) ≠ oA (some c)) = false := hdec
          have hJ : J 0 (some ⟨hb, 0, none⟩) (some ⟨m, 0, none⟩) (some ⟨s1.nx x, 0, none⟩) false w4 := ⟨rfl, rfl, A ++ [x], [], by rw [hAB]; simp, rfl, h4', B4, .inl ⟨rfl, rfl⟩, F4⟩
          rw [show decide ((some (⟨({ s1 with pa := fun y => if y ∈ A ++ [x] then none else s.pa y } : St).nx x, 0, none⟩ : Addr)) ≠ oA ((c :: cs).head?)) = false from hdec]
          exact ⟨⟨_, hJ⟩, mn_lt hJ (by simp at hBn; omega)⟩
        | cons b B' =>
          have hcx : s1.nx x = b := by rw [hnx]; simp
          have hbc : b ≠ c := fun e => by
            subst e
            rw [hAB] at hCn
            cases A with
            | nil =>
              simp only [List.nil_append, List.cons.injEq] at hAB
              rw [hAB.1] at hCn
              simp at hCn
            | cons a A =>
              simp only [List.cons_append, List.cons.injEq] at hAB
              rw [← hAB.1] at hCn
              simp at hCn
          have hdec : decide ((some (⟨s1.nx x, 0, none⟩ : Addr)) ≠ some ⟨c, 0, none⟩) = true := by simp [hcx, hbc]
          have hJ : J (b :: B').length (some ⟨hb, 0, none⟩) (some ⟨m, 0, none⟩) (some ⟨s1.nx x, 0, none⟩) true w4 := ⟨rfl, rfl, A ++ [x], b :: B', by rw [hAB]; simp, rfl, h4', B4, .inr ⟨b, B', rfl, rfl, by rw [hcx]⟩, F4⟩
          show (_ ∧ _)
          rw [show decide ((some (⟨({ s1 with pa := fun y => if y ∈ A ++ [x] then none else s.pa y } : St).nx x, 0, none⟩ : Addr)) ≠ oA ((c :: cs).head?)) = true from hdec]
          exact ⟨⟨_, hJ⟩, mn_lt hJ (by simp only [List.length_cons] at hBn ⊢; omega)⟩
  have hnxD : s.nx m ∈ D := hRD _ ((q3 _).1 (ring_mem_nx q1 (x := m) (by simp)).1)
  refine ptr_eql (h1.known hnxD) (h1.known hmD) ?_
  cases ht : t with
  | nil =>
    rw [ht] at q1
    have hnx : s.nx m = m := q1.1.1
    have hdec : decide ((some (⟨s.nx m, 0, none⟩ : Addr)) = some ⟨m, 0, none⟩) = true := by simp [hnx]
    rw [hdec]
    simp only [BIf_true]
    refine store_intro (i := 0) b1 (by simp) rfl fun w2 b2 f2 z2 => ?_
    exact J1 s w2 (h1.fr f2 fun y hy e => hne y hy e.symm) rfl rfl rfl rfl (by rw [ht]; trivial) (fun _ _ => ⟨rfl, rfl⟩) (by rw [ht]; exact b2) (F1.trans f2 fun y e => .inl (.inl e))
  | cons a t' =>
    have ht0 : t ≠ [] := by rw [ht]; simp
    obtain ⟨o1, o2, o3⟩ := ring_out q1 q2 ht0
    have hna : s.nx m = a := by rw [o2]; simp [ht]
    have hnt : s.nx m ∈ t := by rw [o2]; exact List.head_mem ht0
    have hpt : s.pv m ∈ t := by rw [o3]; exact List.getLast_mem ht0
    have hnm : s.nx m ≠ m := fun e => hmt (e ▸ hnt)
    have hpm : s.pv m ≠ m := fun e => hmt (e ▸ hpt)
    have hnD := hRD _ (htR _ hnt)
    have hpD := hRD _ (htR _ hpt)
    have hdec : decide ((some (⟨s.nx m, 0, none⟩ : Addr)) = some ⟨m, 0, none⟩) = false := by simp [hnm]
    rw [hdec]
    simp only [BIf_false]
    refine drw_intro fun w2 f2 z2 => ?_
    have h2 := h1.fr0 f2
    have b2 := b1.fr f2 id
    refine load_ptr (i := 0) b2 rfl ?_
    try simp only [NN_mk]
    refine ld_pv h2 hmD ?_
    refine load_ptr (i := 0) b2 rfl ?_
    try simp only [NN_mk]
    refine ld_nx h2 hmD ?_
    try simp only [NN_mk]
    refine st_nx h2 hpD fun w3 h3 f3 z3 => ?_
    refine drw_intro fun w4 f4 z4 => ?_
    have h4 := h3.fr0 f4
    have b4 := (b2.fr f3 fun e => hne _ hpD e).fr f4 id
    refine load_ptr (i := 0) b4 rfl ?_
    try simp only [NN_mk]
    refine ld_nx h4 hmD ?_
    refine load_ptr (i := 0) b4 rfl ?_
    try simp only [NN_mk]
    refine ld_pv h4 hmD ?_
    have e1 : up s.nx (s.pv m) (s.nx m) m = s.nx m := up_ne _ _ (Ne.symm hpm)
    dsimp only
    rw [e1]
    try simp only [NN_mk]
    refine st_pv h4 hnD fun w5 h5 f5 z5 => ?_
    have b5 := b4.fr f5 fun e => hne _ hnD e
    refine load_ptr (i := 0) b5 rfl ?_
    try simp only [NN_mk]
    refine ld_nx h5 hmD ?_
    dsimp only
    rw [e1, hna]
    try simp only [NN_mk]
    refine store_intro (i := 0) b5 (by simp) rfl fun w6 b6 f6 z6 => ?_
    have F6 : Fr (fun y => y = hb ∨ y ∈ D) w w6 := ((((F1.trans f2 fun _ h => h.elim).trans f3 fun y e => .inl (.inr (by have e : y = s.pv m := e; rw [e]; exact hpD))).trans f4 fun _ h => h.elim).trans f5 fun y e => .inl (.inr (by have e : y = s.nx m := e; rw [e]; exact hnD))).trans f6 fun y e => .inl (.inl e)
    refine J1 { s with nx := up s.nx (s.pv m) (s.nx m), pv := up s.pv (s.nx m) (s.pv m) } w6 (MS.fr h5 f6 fun y hy e => hne y hy (Eq.symm e)) rfl rfl rfl rfl o1 (fun y hy => ⟨up_ne _ _ fun e => hy (e ▸ htR _ hpt), up_ne _ _ fun e => hy (e ▸ htR _ hnt)⟩) (by rw [ht]; exact b6) F6
end Go.Proofs.Ytlbeelgfpbkdbaa.E
