/-
  One tree becomes the child of another one.
-/
import Derived.Test.YtlbeelgfpbkdbaaFh3
namespace Go.Proofs.Ytlbeelgfpbkdbaa.E
open Go
set_option linter.unusedSimpArgs false
set_option linter.unusedVariables false
set_option maxRecDepth 100000
set_option maxHeartbeats 4000000

theorem For.link {s s' : St} {D R R' : List Nat} {C : Nat → List Nat} {h : Nat → Nat} (F : For s D R C h) {m M : Nat} {N : List Nat} (hm : m ∈ R) (hM : M ∈ R) (hne : m ≠ M) (hpa : s'.pa = up s.pa M (some m)) (hch : ∀ b ∈ D, s'.ch b = (up C m N b).head?) (hdg : ∀ b ∈ D, s'.dg b = (up C m N b).length) (hCr : ∀ b ∈ D, Ring s'.nx s'.pv (up C m N b)) (hR : ∀ y, y ∈ R' ↔ y ∈ R ∧ y ≠ M) (hn : R'.Nodup) (hN : ∀ y, y ∈ N ↔ y ∈ C m ∨ y = M) (hNn : N.Nodup) :
    For s' D R' (up C m N) (up h m (max (h m) (h M + 1))) := by
  have hmD := ((F.Rm m).1 hm)
  have hMD := ((F.Rm M).1 hM)
  refine ⟨F.Dn, hn, fun b hb => ?_, fun y => ?_, fun b hb y => ?_, fun y hy b hyb => ?_, hCr, hch, hdg, fun y hy b hyb => ?_⟩
  · by_cases e : b = m
    · subst e; rw [up_same]; exact hNn
    · rw [up_ne _ _ e]; exact F.Cn b hb
  · rw [hR, hpa]
    by_cases e : y = M
    · subst e; simp
    · rw [up_ne _ _ e]; simp only [ne_eq, e, not_false_eq_true, and_true]; exact F.Rm y
  · rw [hpa]
    by_cases e : b = m
    · subst e
      rw [up_same, hN]
      by_cases ey : y = M
      · subst ey; simp [hMD.1]
      · rw [up_ne _ _ ey]; simp only [ey, or_false]; exact F.Cm b hb y
    · rw [up_ne _ _ e]
      by_cases ey : y = M
      · subst ey
        rw [up_same, F.Cm b hb y, hMD.2]
        simp; intro _ h; exact e h.symm
      · rw [up_ne _ _ ey]; exact F.Cm b hb y
  · rw [hpa] at hyb
    by_cases ey : y = M
    · subst ey; simp at hyb; subst hyb; exact hmD.1
    · rw [up_ne _ _ ey] at hyb; exact F.pD y hy b hyb
  · rw [hpa] at hyb
    by_cases ey : y = M
    · subst ey; simp at hyb; subst hyb
      rw [up_same, up_ne _ _ (Ne.symm hne)]; omega
    · rw [up_ne _ _ ey] at hyb
      have hym : y ≠ m := fun e => by subst e; rw [hmD.2] at hyb; cases hyb
      rw [up_ne _ _ hym]
      have := F.rk y hy b hyb
      by_cases eb : b = m
      · subst eb; rw [up_same]; omega
      · rw [up_ne _ _ eb]; exact this

/-- What links a tree under another one. -/
theorem F20_J4_spec {k : Value → W} {again70 : Option Addr → Option Addr → Option Addr → Nat → Nat → Option Addr → Nat → Nat → Int → Int → W} {again80 : Option Addr → Option Addr → Option Addr → Nat → Nat → Option Addr → Option Addr → Nat → Nat → Int → Int → W} {hp mp tp sp : Option Addr} {tl tc sl sc : Nat} {x y : Int}
    {w : World} {D R : List Nat} {s : St} {C : Nat → List Nat} {h : Nat → Nat} {m M : Nat} (hms : MS w D s) (F : For s D R C h) (rr : Ring s.nx s.pv R) (or : Ordd s D) (hm : m ∈ R) (hM : M ∈ R) (hne : m ≠ M) (hpr : s.pr m ≤ s.pr M) (ft : ∀ x ∈ D, Fit (s.pr x)) (hDl : D.length < 100000)
    (hk : ∀ s' R' C' h' w', MS w' D s' → For s' D R' C' h' → Ring s'.nx s'.pv R' → Ordd s' D → s'.pr = s.pr → (∀ y, y ∈ R' ↔ y ∈ R ∧ y ≠ M) → R'.length < R.length → (∀ y, y ≠ m → s'.dg y = s.dg y) → Fr (fun y => y ∈ D) w w' → again80 hp mp tp tl tc (some ⟨m, 0, none⟩) sp sl sc x y w') :
    F20_J4 k again70 again80 hp mp tp tl tc (some ⟨m, 0, none⟩) (some ⟨M, 0, none⟩) sp sl sc x y w := by
  have hRD : ∀ y ∈ R, y ∈ D := fun y hy => ((F.Rm y).1 hy).1
  have hmD := hRD m hm
  have hMD := hRD M hM
  obtain ⟨t, q1, q2, q3⟩ := ring_from rr F.Rn hM
  have hmt : m ∈ t := by
    have := (q3 m).2 hm
    simp only [List.mem_cons] at this
    rcases this with h | h
    · exact absurd h hne
    · exact h
  have ht : t ≠ [] := fun e => by rw [e] at hmt; cases hmt
  obtain ⟨o1, o2, o3⟩ := ring_out q1 q2 ht
  have hMt : M ∉ t := (List.nodup_cons.1 q2).1
  have htR : ∀ y ∈ t, y ∈ R := fun y hy => (q3 y).1 (List.mem_cons_of_mem _ hy)
  have hn1 : s.nx M ∈ t := by rw [o2]; exact List.head_mem ht
  have hp1 : s.pv M ∈ t := by rw [o3]; exact List.getLast_mem ht
  have hn1M : s.nx M ≠ M := fun e => hMt (e ▸ hn1)
  have hp1M : s.pv M ≠ M := fun e => hMt (e ▸ hp1)
  unfold F20_J4
  refine drw_intro fun w1 f1 z1 => ?_
  have h1 := hms.fr0 f1
  try simp only [NN_mk]
  refine ld_nx h1 hMD (ld_pv h1 hMD ?_)
  try simp only [NN_mk]
  refine st_pv h1 (hRD _ (htR _ hn1)) fun w2 h2 f2 z2 => ?_
  refine drw_intro fun w3 f3 z3 => ?_
  have h3 := h2.fr0 f3
  refine ld_pv h3 hMD (ld_nx h3 hMD ?_)
  show (NN (some (⟨up s.pv (s.nx M) (s.pv M) M, 0, none⟩ : Addr)) _) w3
  rw [up_ne _ _ (Ne.symm hn1M)]
  try simp only [NN_mk]
  refine st_nx h3 (hRD _ (htR _ hp1)) fun w4 h4 f4 z4 => ?_
  refine st_pv h4 hMD fun w5 h5 f5 z5 => ?_
  refine st_nx h5 hMD fun w6 h6 f6 z6 => ?_
  generalize hs6 : ({ s with pv := up (up s.pv (s.nx M) (s.pv M)) M M, nx := up (up s.nx (s.pv M) (s.nx M)) M M } : St) = s6
  have h6' : MS w6 D s6 := by rw [← hs6]; exact h6
  have e6n : s6.nx = up (up s.nx (s.pv M) (s.nx M)) M M := by rw [← hs6]
  have e6v : s6.pv = up (up s.pv (s.nx M) (s.pv M)) M M := by rw [← hs6]
  have e6 : s6.ch = s.ch ∧ s6.pa = s.pa ∧ s6.dg = s.dg ∧ s6.pr = s.pr := by rw [← hs6]; exact ⟨rfl, rfl, rfl, rfl⟩
  have f16 : Fr (fun y => y ∈ D) w w6 := (((((f1.mono fun _ h => h.elim).trans f2 fun y e => .inl (by have e : y = s.nx M := e; rw [e]; exact hRD _ (htR _ hn1))).trans f3 fun _ h => h.elim).trans f4 fun y e => .inl (by have e : y = s.pv M := e; rw [e]; exact hRD _ (htR _ hp1))).trans f5 fun y e => .inl (by have e : y = M := e; rw [e]; exact hMD)).trans f6 fun y e => .inl (by have e : y = M := e; rw [e]; exact hMD)
  have keep6 : ∀ y, y ∉ R → s6.nx y = s.nx y ∧ s6.pv y = s.pv y := fun y hy => by
    have n1 : y ≠ M := fun e => hy (e ▸ hM)
    have n2 : y ≠ s.pv M := fun e => hy (e ▸ htR _ hp1)
    have n3 : y ≠ s.nx M := fun e => hy (e ▸ htR _ hn1)
    rw [e6n, e6v, up_ne _ _ n1, up_ne _ _ n2, up_ne _ _ n1, up_ne _ _ n3]; exact ⟨rfl, rfl⟩
  have rt6 : Ring s6.nx s6.pv t := ring_congr o1 (fun y hy => by rw [e6n, up_ne _ _ (fun (e : y = M) => hMt (e ▸ hy))]) fun y hy => by rw [e6v, up_ne _ _ (fun (e : y = M) => hMt (e ▸ hy))]
  have rM6 : Ring s6.nx s6.pv (M :: []) := ⟨⟨by rw [e6n, up_same], by rw [e6v, up_same]⟩, trivial⟩
  have hnR : ∀ b ∈ D, ∀ y ∈ C b, y ∉ R := fun b hb y hy hr => F.not_root hb hy hr rfl
  have rC6 : ∀ b ∈ D, Ring s6.nx s6.pv (C b) := fun b hb => ring_congr (F.Cr b hb) (fun y hy => (keep6 y (hnR b hb y hy)).1) fun y hy => (keep6 y (hnR b hb y hy)).2
  have hMC : M ∉ C m := fun hc => hnR m hmD M hc hM
  -- the rest
  have rest : ∀ (s7 : St) (N : List Nat) (r : Nat) (w7 : World), MS w7 D s7 → s7.ch = s.ch → s7.pa = s.pa → s7.dg = s.dg → s7.pr = s.pr → Ring s7.nx s7.pv N → N.head? = some r → N.Nodup → (∀ y, y ∈ N ↔ y ∈ C m ∨ y = M) → N.length = (C m).length + 1 → (∀ y, y ∉ C m → y ≠ M → s7.nx y = s6.nx y ∧ s7.pv y = s6.pv y) → Fr (fun y => y ∈ D) w w7 →
      (NN (some (⟨m, 0, none⟩ : Addr)) fun a143 => Store1 (a143.add 4) (.pointer (some ⟨r, 0, none⟩)) <| NN (some (⟨M, 0, none⟩ : Addr)) fun a144 => Store1 (a144.add 5) (.pointer (some ⟨m, 0, none⟩)) <| NN (some (⟨M, 0, none⟩ : Addr)) fun a145 => Store1 (a145.add 1) (.bool false) <| NN (some (⟨m, 0, none⟩ : Addr)) fun a146 => LoadT (.int .i64) a146 fun x147 => Store1 a146 (.int .i64 (addI .i64 x147 1)) <| again80 hp mp tp tl tc (some ⟨m, 0, none⟩) sp sl sc x y) w7 := by
    intro s7 N r w7 h7 e1 e2 e3 e4 rN hr hNn hN hNl hkeep f7
    simp only [NN_mk]
    refine st_ch (v := some r) h7 hmD fun w8 h8 f8 z8 => ?_
    refine st_pa (v := some m) h8 hMD fun w9 h9 f9 z9 => ?_
    refine st_mk h9 hMD fun wa ha fa za => ?_
    refine ld_dg ha hmD ?_
    have hlb := F.deg_le hmD
    have hadd : addI .i64 ((s7.dg m : Nat) : Int) 1 = ((s7.dg m + 1 : Nat) : Int) := by
      rw [e3, addI_i64 (by omega) (by omega)]; omega
    show (Store1 ⟨m, 0, none⟩ (.int .i64 (addI .i64 ((s7.dg m : Nat) : Int) 1)) _) wa
    rw [hadd]
    refine st_dg ha hmD fun wb hb' fb zb => ?_
    have f7b : Fr (fun y => y ∈ D) w7 wb := (((f8.mono fun y e => .inl (by have e : y = m := e; rw [e]; exact hmD)).trans f9 fun y e => .inl (by have e : y = M := e; rw [e]; exact hMD)).trans fa fun y e => .inl (by have e : y = M := e; rw [e]; exact hMD)).trans fb fun y e => .inl (by have e : y = m := e; rw [e]; exact hmD)
    refine hk { s7 with ch := up s7.ch m (some r), pa := up s7.pa M (some m), mkd := up s7.mkd M false, dg := up s7.dg m (s7.dg m + 1) } t (up C m N) (up h m (max (h m) (h M + 1))) wb hb' ?_ ?_ ?_ e4 (fun y => ?_) ?_ (fun y hy => ?_) (f7.trans f7b fun y e => .inl e)
    · refine F.link hm hM hne (by show up s7.pa M (some m) = _; rw [e2]) (fun b hb => ?_) (fun b hb => ?_) (fun b hb => ?_) (fun y => ?_) (List.nodup_cons.1 q2).2 hN hNn
      · show up s7.ch m (some r) b = _
        by_cases e : b = m
        · subst e; rw [up_same, up_same, hr]
        · rw [up_ne _ _ e, up_ne _ _ e, e1]; exact F.ch b hb
      · show up s7.dg m (s7.dg m + 1) b = _
        by_cases e : b = m
        · subst e; rw [up_same, up_same, hNl, e3, F.dg b hb]
        · rw [up_ne _ _ e, up_ne _ _ e, e3]; exact F.dg b hb
      · by_cases e : b = m
        · subst e; rw [up_same]; exact rN
        · rw [up_ne _ _ e]
          have hdis : ∀ y ∈ C b, y ∉ C m ∧ y ≠ M := fun y hy => by
            refine ⟨fun hc => ?_, fun e' => hnR b hb y hy (e' ▸ hM)⟩
            have h1 := ((F.Cm b hb y).1 hy).2
            have h2 := ((F.Cm m hmD y).1 hc).2
            rw [h1] at h2; cases h2; exact e rfl
          exact ring_congr (rC6 b hb) (fun y hy => (hkeep y (hdis y hy).1 (hdis y hy).2).1) fun y hy => (hkeep y (hdis y hy).1 (hdis y hy).2).2
      · rw [← q3 y]
        simp only [List.mem_cons]
        constructor
        · intro hy; exact ⟨.inr hy, fun e => hMt (e ▸ hy)⟩
        · rintro ⟨h | h, h'⟩
          · exact absurd h h'
          · exact h
    · exact ring_congr rt6 (fun y hy => (hkeep y (fun hc => hnR m hmD y hc (htR y hy)) fun e => hMt (e ▸ hy)).1) fun y hy => (hkeep y (fun hc => hnR m hmD y hc (htR y hy)) fun e => hMt (e ▸ hy)).2
    · intro y hy b hyb
      show s7.pr b ≤ s7.pr y
      rw [e4]
      have hyb : up s7.pa M (some m) y = some b := hyb
      by_cases e : y = M
      · subst e; rw [up_same] at hyb; cases hyb; exact hpr
      · rw [up_ne _ _ e, e2] at hyb; exact or y hy b hyb
    · rw [← q3 y]
      simp only [List.mem_cons]
      constructor
      · intro hy; exact ⟨.inr hy, fun e => hMt (e ▸ hy)⟩
      · rintro ⟨h | h, h'⟩
        · exact absurd h h'
        · exact h
    · have : (M :: t).length ≤ R.length := len_le_of q2 fun y hy => (q3 y).1 hy
      simp only [List.length_cons] at this; omega
    · show up s7.dg m (s7.dg m + 1) y = _
      rw [up_ne _ _ hy, e3]
  refine ld_ch h6' hmD ?_
  rw [e6.1, F.ch m hmD]
  cases hC : C m with
  | nil =>
    refine F26_call (F26_none1 (back_ptr ?_))
    have := rest s6 [M] M w6 h6' e6.1 e6.2.1 e6.2.2.1 e6.2.2.2 rM6 rfl (by simp) (fun y => by rw [hC]; simp) (by rw [hC]; rfl) (fun _ _ _ => ⟨rfl, rfl⟩) f16
    exact this
  | cons a cs =>
    have haC : a ∈ C m := by rw [hC]; simp
    have hCD : ∀ y ∈ C m, y ∈ D := fun y hy => ((F.Cm m hmD y).1 hy).1
    have rA : Ring s6.nx s6.pv (a :: cs) := by rw [← hC]; exact rC6 m hmD
    have hCn := F.Cn m hmD
    rw [hC] at hCn
    have haM : a ≠ M := fun e => hMC (e ▸ haC)
    have nd2 : (a :: cs ++ M :: []).Nodup := List.nodup_append.2 ⟨hCn, by simp, fun y hy z hz => by simp only [List.mem_singleton] at hz; rw [hz]; exact fun e => hMC (by rw [hC]; exact e ▸ hy)⟩
    have rm := ring_merge rA rM6 nd2
    have hna := (ring_mem_nx rA (x := a) (by simp)).1
    have hnaC : s6.nx a ∈ C m := by rw [hC]; exact hna
    have hnM : s6.nx M = M := by rw [e6n, up_same]
    refine F26_call (F26_both h6' (hCD a haC) hMD (hCD _ hnaC) (by rw [hnM]; exact hMD) (by rw [e6.2.2.2]; exact ft a (hCD a haC)) (by rw [e6.2.2.2]; exact ft M hMD) fun w7 h7 f7 z7 => back_ptr ?_)
    rw [e6.2.2.2]
    have hp1 : (a :: cs ++ M :: []).Perm (a :: ([] ++ M :: cs)) := by
      simp only [List.nil_append, List.cons_append]
      exact (List.perm_append_comm (l₁ := cs) (l₂ := [M])).cons a
    have hkeep : ∀ y, y ∉ C m → y ≠ M → ({ s6 with nx := up (up s6.nx a (s6.nx M)) M (s6.nx a), pv := up (up s6.pv (s6.nx M) a) (s6.nx a) M } : St).nx y = s6.nx y ∧ ({ s6 with nx := up (up s6.nx a (s6.nx M)) M (s6.nx a), pv := up (up s6.pv (s6.nx M) a) (s6.nx a) M } : St).pv y = s6.pv y := fun y h1 h2 => by
      constructor
      · show up (up s6.nx a (s6.nx M)) M (s6.nx a) y = _
        rw [up_ne _ _ h2, up_ne _ _ (fun (e : y = a) => h1 (e ▸ haC))]
      · show up (up s6.pv (s6.nx M) a) (s6.nx a) M y = _
        rw [up_ne _ _ (fun (e : y = s6.nx a) => h1 (e ▸ hnaC)), hnM, up_ne _ _ h2]
    by_cases hlt : s.pr a < s.pr M
    · rw [if_pos hlt]
      exact rest _ (a :: ([] ++ M :: cs)) a w7 h7 e6.1 e6.2.1 e6.2.2.1 e6.2.2.2 rm rfl (hp1.nodup_iff.1 nd2) (fun y => by
        rw [← hp1.mem_iff, hC]; simp [or_assoc]) (by rw [hC]; simp) hkeep (f16.trans f7 fun y e => .inl e)
    · rw [if_neg hlt]
      have hp2 : (a :: ([] ++ M :: cs)).Perm (M :: cs ++ [a]) := by
        simp only [List.nil_append]
        exact (List.perm_append_comm (l₁ := [a]) (l₂ := M :: cs))
      exact rest _ (M :: cs ++ [a]) M w7 h7 e6.1 e6.2.1 e6.2.2.1 e6.2.2.2 (ring_rot rm) rfl (hp2.nodup_iff.1 (hp1.nodup_iff.1 nd2)) (fun y => by
        rw [← hp2.mem_iff, ← hp1.mem_iff, hC]; simp [or_assoc]) (by rw [hC]; simp) hkeep (f16.trans f7 fun y e => .inl e)
end Go.Proofs.Ytlbeelgfpbkdbaa.E
