/-
  A node is cut out of its parent's ring; a priority decreased.
-/
import Derived.Test.YtlbeelgfpbkdbaaFh2
namespace Go.Proofs.Ytlbeelgfpbkdbaa.E
open Go
set_option linter.unusedSimpArgs false
set_option linter.unusedVariables false
set_option maxRecDepth 100000
set_option maxHeartbeats 4000000

theorem For.cut {s s' : St} {D R R' : List Nat} {C : Nat → List Nat} {h : Nat → Nat} (F : For s D R C h) {x p : Nat} {A B : List Nat} (hx : x ∈ D) (hp : s.pa x = some p) (hC : C p = A ++ x :: B) (hpa : s'.pa = up s.pa x none) (hch : ∀ b ∈ D, s'.ch b = (up C p (A ++ B) b).head?) (hdg : ∀ b ∈ D, s'.dg b = (up C p (A ++ B) b).length) (hCr : ∀ b ∈ D, Ring s'.nx s'.pv (up C p (A ++ B) b)) (hR : ∀ y, y ∈ R' ↔ y ∈ R ∨ y = x) (hn : R'.Nodup) : For s' D R' (up C p (A ++ B)) h := by
  have hpD := F.pD x hx p hp
  have hCn := F.Cn p hpD
  rw [hC] at hCn
  have hCn' : (x :: (A ++ B)).Nodup := by
    have : (A ++ x :: B).Perm (x :: (A ++ B)) := List.perm_middle
    exact this.nodup_iff.1 hCn
  obtain ⟨n1, n2⟩ := List.nodup_cons.1 hCn'
  refine ⟨F.Dn, hn, fun b hb => ?_, fun y => ?_, fun b hb y => ?_, fun y hy b hyb => ?_, hCr, hch, hdg, fun y hy b hyb => ?_⟩
  · by_cases e : b = p
    · subst e; rw [up_same]; exact n2
    · rw [up_ne _ _ e]; exact F.Cn b hb
  · rw [hR, hpa]
    by_cases e : y = x
    · subst e; simp [hx]
    · rw [up_ne _ _ e]; simp only [e, or_false]; exact F.Rm y
  · rw [hpa]
    by_cases e : b = p
    · subst e
      rw [up_same]
      by_cases ey : y = x
      · subst ey; simp only [up_same]; constructor
        · intro h; exact absurd h n1
        · intro h; exact absurd h.2 (by simp)
      · rw [up_ne _ _ ey, ← F.Cm b hb y, hC]
        simp [ey]
    · rw [up_ne _ _ e]
      by_cases ey : y = x
      · subst ey
        rw [up_same, F.Cm b hb y, hp]
        simp; intro _ h; exact e h.symm
      · rw [up_ne _ _ ey]; exact F.Cm b hb y
  · rw [hpa] at hyb
    by_cases ey : y = x
    · subst ey; simp at hyb
    · rw [up_ne _ _ ey] at hyb; exact F.pD y hy b hyb
  · rw [hpa] at hyb
    by_cases ey : y = x
    · subst ey; simp at hyb
    · rw [up_ne _ _ ey] at hyb; exact F.rk y hy b hyb

section
variable {hb size M : Nat} {D : List Nat} {h : Nat → Nat}
/-- cutNode. -/
theorem F29_spec (hM : ∀ y ∈ D, h y ≤ M) (hDl : D.length < 100000) : ∀ (n : Nat) {k : Value → W} {w : World} {s : St} {pm : Nat → Option Nat} {X R : List Nat} {C : Nat → List Nat} {x m : Nat}, M - h x = n → MS w D { s with pa := pm } → (∀ y ∈ D, y ∉ X → pm y = s.pa y) → For s D R C h → Ring s.nx s.pv R → x ∈ D → (∀ y ∈ X, h y < h x) → Blk w hb 45 [.pointer (some ⟨m, 0, none⟩), .int .u64 (size : Nat)] → m ∈ R → (∀ y ∈ D, Fit (s.pr y)) →
    (∀ w' s' pm' R' C' m', MS w' D { s' with pa := pm' } → (∀ y ∈ D, y ∉ X → pm' y = s'.pa y) → For s' D R' C' h → Ring s'.nx s'.pv R' → s'.pr = s.pr → (∀ y ∈ D, s'.pa y = none ∨ s'.pa y = s.pa y) → s'.pa x = none → Blk w' hb 45 [.pointer (some ⟨m', 0, none⟩), .int .u64 (size : Nat)] → m' ∈ R' → s.pr m' ≤ s.pr m → (s.pa x ≠ none → s.pr m' ≤ s.pr x) → Fr (fun y => y = hb ∨ y ∈ D) w w' → k (.tuple #[]) w') →
    F29 k (some ⟨hb, 0, none⟩) (some ⟨x, 0, none⟩) w := by
  intro n
  induction n using Nat.strongRecOn with
  | ind n ih =>
  intro k w s pm X R C x m hn hms hag F Rr hx hXx hB hmR hft hk
  have hxX : x ∉ X := fun hm => by have := hXx x hm; omega
  have hne : ∀ y ∈ D, y ≠ hb := fun y hy e => by have := hms y hy; rw [e] at this; exact absurd (this.unique hB).1 (by decide)
  unfold F29
  try simp only [NN_mk]
  refine st_mk hms hx fun w1 h1 f1 z1 => ?_
  have F1w : Fr (fun y => y = hb ∨ y ∈ D) w w1 := f1.mono fun y e => .inl (.inr (by have e : y = x := e; rw [e]; exact hx))
  have B1 := hB.fr f1 fun e => hne x hx (Eq.symm e)
  refine ld_pa h1 hx ?_
  have hpx : pm x = s.pa x := hag x hx hxX
  show (BIf (oA (pm x)).isNone _ _) w1
  rw [hpx]
  cases hp : s.pa x with
  | none =>
    simp only [oA_none, Option.isNone_none, BIf_true]
    refine hk w1 { s with mkd := up s.mkd x false } pm R C m h1 hag (F.links rfl rfl rfl (fun _ => Iff.rfl) F.Rn fun _ _ _ _ => ⟨rfl, rfl⟩) Rr rfl (fun y _ => .inr rfl) hp B1 hmR (Int.le_refl _) (fun e => absurd hp e) F1w
  | some p =>
  simp only [oA_some, Option.isNone_some, BIf_false]
  have hpD := F.pD x hx p hp
  have hxC : x ∈ C p := (F.Cm p hpD x).2 ⟨hx, hp⟩
  obtain ⟨A, B, hC⟩ := List.append_of_mem hxC
  have hCn := F.Cn p hpD
  have hCr := F.Cr p hpD
  rw [hC] at hCn hCr
  have hr0 : Ring s.nx s.pv (x :: (B ++ A)) := by have := ring_swap (A := A) (B := x :: B) hCr; simpa using this
  have hn0 : (x :: (B ++ A)).Nodup := by
    have : (A ++ x :: B).Perm (x :: (B ++ A)) := by have := List.perm_append_comm (l₁ := A) (l₂ := x :: B); simpa using this
    exact this.nodup_iff.1 hCn
  have hmemC : ∀ y, y ∈ C p ↔ y = x ∨ y ∈ B ++ A := fun y => by
    rw [hC]; simp only [List.mem_append, List.mem_cons]
    constructor
    · rintro (h | h | h)
      · exact .inr (.inr h)
      · exact .inl h
      · exact .inr (.inl h)
    · rintro (h | h | h)
      · exact .inr (.inl h)
      · exact .inr (.inr h)
      · exact .inl h
  have hCD : ∀ y ∈ C p, y ∈ D := fun y hy => ((F.Cm p hpD y).1 hy).1
  have hRD : ∀ y ∈ R, y ∈ D := fun y hy => ((F.Rm y).1 hy).1
  have hxp : x ≠ p := fun e => by have := F.rk x hx p hp; rw [e] at this; omega
  obtain ⟨nx1, nx2⟩ := ring_mem_nx hr0 (x := x) (by simp)
  have hnxC : s.nx x ∈ C p := (hmemC _).2 (by simpa using nx1)
  have hpvC : s.pv x ∈ C p := (hmemC _).2 (by simpa using nx2)
  -- from the second part on
  have J2 : ∀ (s4 : St) (w4 : World), MS w4 D { s4 with pa := pm } → Blk w4 hb 45 [.pointer (some ⟨m, 0, none⟩), .int .u64 (size : Nat)] → Fr (fun y => y = hb ∨ y ∈ D) w w4 → s4.pr = s.pr → s4.dg = s.dg → s4.pa = s.pa → (∀ b ∈ D, s4.ch b = (up C p (A ++ B) b).head?) → Ring s4.nx s4.pv (B ++ A) → (∀ y, y ∉ C p → s4.nx y = s.nx y ∧ s4.pv y = s.pv y) →
      F29_J2 k (some ⟨hb, 0, none⟩) (some ⟨x, 0, none⟩) w4 := by
    intro s4 w4 h4 B4 f4 e_pr e_dg e_pa hch hrBA hoth
    unfold F29_J2
    try simp only [NN_mk]
    have ldpa : ∀ {w' : World} {t : St} {K : Option Addr → W}, MS w' D { t with pa := pm } → K (some ⟨p, 0, none⟩) w' → LoadT .ptr ((⟨x, 0, none⟩ : Addr).add 5) K w' := fun {w' t K} hm hK => ld_pa hm hx (by show K (oA (pm x)) w'; rw [hpx, hp]; exact hK)
    refine ldpa h4 ?_
    try simp only [NN_mk]
    refine ld_dg h4 hpD ?_
    have hdp : s4.dg p = (A ++ B).length + 1 := by rw [e_dg, F.dg p hpD, hC]; simp; omega
    have hlb : s.dg p ≤ D.length := F.deg_le hpD
    have hdeg : subI .i64 ((s4.dg p : Nat) : Int) 1 = (((A ++ B).length : Nat) : Int) := by
      rw [e_dg] at hdp
      rw [e_dg, subI_i64 (by omega) (by omega)]; omega
    show (Store1 ⟨p, 0, none⟩ (.int .i64 (subI .i64 ((s4.dg p : Nat) : Int) 1)) _) w4
    rw [hdeg]
    refine st_dg h4 hpD fun w5 h5 f5 z5 => ?_
    refine st_pv h5 hx fun w6 h6 f6 z6 => ?_
    refine st_nx h6 hx fun w7 h7 f7 z7 => ?_
    have f47 : Fr (fun y => y = hb ∨ y ∈ D) w4 w7 := ((f5.mono fun y e => .inl (.inr (by have e : y = p := e; rw [e]; exact hpD))).trans f6 fun y e => .inl (.inr (by have e : y = x := e; rw [e]; exact hx))).trans f7 fun y e => .inl (.inr (by have e : y = x := e; rw [e]; exact hx))
    have B7 := ((B4.fr f5 fun e => hne p hpD (Eq.symm e)).fr f6 fun e => hne x hx (Eq.symm e)).fr f7 fun e => hne x hx (Eq.symm e)
    refine load_ptr (i := 0) B7 rfl ?_
    -- the rings
    generalize hs7 : ({ s4 with dg := up s4.dg p (A ++ B).length, pv := up s4.pv x x, nx := up s4.nx x x } : St) = s7
    have e7n : s7.nx = up s4.nx x x := by rw [← hs7]
    have e7v : s7.pv = up s4.pv x x := by rw [← hs7]
    have e7pr : s7.pr = s.pr := by rw [← hs7]; exact e_pr
    have e7ch : s7.ch = s4.ch := by rw [← hs7]
    have e7dg : s7.dg = up s4.dg p (A ++ B).length := by rw [← hs7]
    have h7' : MS w7 D { s7 with pa := pm } := by rw [← hs7]; exact h7
    have hxBA : x ∉ B ++ A := (List.nodup_cons.1 hn0).1
    have notR : ∀ y ∈ C p, ∀ r ∈ R, y ≠ r := fun y hy r hr => F.not_root hpD hy hr
    have hxR : x ∉ R := fun e => notR x hxC x e rfl
    obtain ⟨u, q1, q2, q3⟩ := ring_from Rr F.Rn hmR
    have hmx : m ≠ x := fun e => hxR (e ▸ hmR)
    have rR : Ring s7.nx s7.pv (m :: u) := by
      refine ring_congr q1 (fun y hy => ?_) fun y hy => ?_
      · have hyR := (q3 y).1 hy
        rw [e7n, up_ne _ _ (fun (e : y = x) => hxR (e ▸ hyR))]
        exact (hoth y fun hc => notR y hc y hyR rfl).1
      · have hyR := (q3 y).1 hy
        rw [e7v, up_ne _ _ (fun (e : y = x) => hxR (e ▸ hyR))]
        exact (hoth y fun hc => notR y hc y hyR rfl).2
    have rx : Ring s7.nx s7.pv (x :: []) := ⟨⟨by rw [e7n, up_same], by rw [e7v, up_same]⟩, trivial⟩
    have nd2 : (m :: u ++ x :: []).Nodup := List.nodup_append.2 ⟨q2, by simp, fun y hy z hz => by simp only [List.mem_singleton] at hz; rw [hz]; exact fun e => hxR (e ▸ (q3 y).1 hy)⟩
    have rm := ring_merge rR rx nd2
    have hnm := (ring_mem_nx rR (x := m) (by simp)).1
    have hnmR := (q3 _).1 hnm
    have hnxx : s7.nx x = x := by rw [e7n, up_same]
    have hmD := hRD m hmR
    refine F26_call (F26_both h7' hmD hx (hRD _ hnmR) (by show s7.nx x ∈ D; rw [hnxx]; exact hx) (by show Fit (s7.pr m); rw [e7pr]; exact hft m hmD) (by show Fit (s7.pr x); rw [e7pr]; exact hft x hx) fun w8 h8 f8 z8 => back_ptr ?_)
    have B8 := B7.fr f8 fun e => hne hb e rfl
    refine store_intro (i := 0) B8 (by simp) rfl fun w9 B9 f9 z9 => ?_
    generalize hs8 : ({ s7 with pa := up s.pa x none, nx := up (up s7.nx m (s7.nx x)) x (s7.nx m), pv := up (up s7.pv (s7.nx x) m) (s7.nx m) x } : St) = s8
    have h9 : MS w9 D { s8 with pa := pm } := by rw [← hs8]; exact MS.fr h8 f9 fun y hy e => hne y hy e
    have f09 : Fr (fun y => y = hb ∨ y ∈ D) w w9 := ((f4.trans f47 fun y e => .inl e).trans f8 fun y e => .inl (.inr e)).trans f9 fun y e => .inl (.inl e)
    have e8pa : s8.pa = up s.pa x none := by rw [← hs8]
    have e8pr : s8.pr = s.pr := by rw [← hs8]; exact e7pr
    have hR8 : ∀ y, y ∈ m :: ([] ++ x :: u) ↔ y ∈ R ∨ y = x := fun y => by
      have := q3 y
      simp only [List.mem_cons, List.nil_append] at this ⊢
      constructor
      · rintro (h | h | h)
        · exact .inl (this.1 (.inl h))
        · exact .inr h
        · exact .inl (this.1 (.inr h))
      · rintro (h | h)
        · rcases this.2 h with h | h
          · exact .inl h
          · exact .inr (.inr h)
        · exact .inr (.inl h)
    have hn8 : (m :: ([] ++ x :: u)).Nodup := by
      have : (m :: u ++ x :: []).Perm (m :: ([] ++ x :: u)) := by
        simp only [List.nil_append, List.cons_append]
        exact (List.perm_append_comm (l₁ := u) (l₂ := [x])).cons m
      exact this.nodup_iff.1 nd2
    have r8 : Ring s8.nx s8.pv (m :: ([] ++ x :: u)) := by rw [← hs8]; exact rm
    -- a child's links
    have keep : ∀ y, y ≠ x → (∀ r ∈ R, y ≠ r) → s8.nx y = s4.nx y ∧ s8.pv y = s4.pv y := fun y h1 h2 => by
      rw [← hs8]
      constructor
      · show up (up s7.nx m (s7.nx x)) x (s7.nx m) y = _
        rw [up_ne _ _ h1, up_ne _ _ (h2 m hmR), e7n, up_ne _ _ h1]
      · show up (up s7.pv (s7.nx x) m) (s7.nx m) x y = _
        rw [up_ne _ _ (h2 _ hnmR), hnxx, up_ne _ _ h1, e7v, up_ne _ _ h1]
    have F8 : For s8 D (m :: ([] ++ x :: u)) (up C p (A ++ B)) h := by
      refine F.cut hx hp hC e8pa (fun b hbD => ?_) (fun b hbD => ?_) (fun b hbD => ?_) hR8 hn8
      · rw [← hs8]; show s7.ch b = _; rw [e7ch]; exact hch b hbD
      · rw [← hs8]; show s7.dg b = _; rw [e7dg, e_dg]
        by_cases e : b = p
        · subst e; rw [up_same, up_same]
        · rw [up_ne _ _ e, up_ne _ _ e]; exact F.dg b hbD
      · by_cases e : b = p
        · subst e
          rw [up_same]
          have hAB : Ring s4.nx s4.pv (A ++ B) := ring_swap hrBA
          refine ring_congr hAB (fun y hy => ?_) fun y hy => ?_
          · have hyBA : y ∈ B ++ A := by simp only [List.mem_append] at hy ⊢; exact hy.symm
            exact (keep y (fun e => hxBA (e ▸ hyBA)) fun r hr => notR y ((hmemC y).2 (.inr hyBA)) r hr).1
          · have hyBA : y ∈ B ++ A := by simp only [List.mem_append] at hy ⊢; exact hy.symm
            exact (keep y (fun e => hxBA (e ▸ hyBA)) fun r hr => notR y ((hmemC y).2 (.inr hyBA)) r hr).2
        · rw [up_ne _ _ e]
          have hnC : ∀ y ∈ C b, y ∉ C p := fun y hy hc => by
            have h1 := ((F.Cm b hbD y).1 hy).2
            have h2 := ((F.Cm p hpD y).1 hc).2
            rw [h1] at h2; cases h2; exact e rfl
          refine ring_congr (F.Cr b hbD) (fun y hy => ?_) fun y hy => ?_
          · rw [(keep y (fun e => hnC y hy (e ▸ hxC)) fun r hr => F.not_root hbD hy hr).1]; exact (hoth y (hnC y hy)).1
          · rw [(keep y (fun e => hnC y hy (e ▸ hxC)) fun r hr => F.not_root hbD hy hr).2]; exact (hoth y (hnC y hy)).2
    have ag8 : ∀ y ∈ D, y ∉ x :: X → pm y = s8.pa y := fun y hy hyX => by
      simp only [List.mem_cons, not_or] at hyX
      rw [e8pa, up_ne _ _ hyX.1]; exact hag y hy hyX.2
    generalize hm9 : (if ({ s7 with pa := pm } : St).pr m < ({ s7 with pa := pm } : St).pr x then m else x) = m9 at B9
    have hm9' : (if s.pr m < s.pr x then m else x) = m9 := by rw [← hm9, ← e7pr]
    have hm9R : m9 ∈ m :: ([] ++ x :: u) := by rw [← hm9']; split <;> simp
    have hm9a : s.pr m9 ≤ s.pr m ∧ s.pr m9 ≤ s.pr x := by
      rw [← hm9']; split
      · exact ⟨Int.le_refl _, by omega⟩
      · exact ⟨by omega, Int.le_refl _⟩
    -- the last step
    have J3 : ∀ (w' : World) (s' : St) (pm' : Nat → Option Nat) (R' : List Nat) (C' : Nat → List Nat) (m' : Nat), MS w' D { s' with pa := pm' } → (∀ y ∈ D, y ∉ x :: X → pm' y = s'.pa y) → For s' D R' C' h → Ring s'.nx s'.pv R' → s'.pr = s.pr → (∀ y ∈ D, s'.pa y = none ∨ s'.pa y = s8.pa y) → Blk w' hb 45 [.pointer (some ⟨m', 0, none⟩), .int .u64 (size : Nat)] → m' ∈ R' → s.pr m' ≤ s.pr m9 → Fr (fun y => y = hb ∨ y ∈ D) w w' → F29_J3 k (some ⟨x, 0, none⟩) w' := by
      intro w' s' pm' R' C' m' g1 g2 g3 g4 g5 g6 g7 g8 g9 g10
      unfold F29_J3
      try simp only [NN_mk]
      have hpx' : s'.pa x = none := by
        rcases g6 x hx with e | e
        · exact e
        · rw [e, e8pa, up_same]
      refine st_pa (v := none) g1 hx fun w'' h' f' z' => ?_
      refine hk w'' s' (up pm' x none) R' C' m' h' (fun y hy hyX => ?_) g3 g4 g5 (fun y hy => ?_) hpx' (g7.fr f' fun e => hne x hx (Eq.symm e)) g8 (by omega) (fun _ => by omega) (g10.trans f' fun y e => .inl (.inr (by have e : y = x := e; rw [e]; exact hx)))
      · by_cases e : y = x
        · subst e; rw [up_same, hpx']
        · rw [up_ne _ _ e]; exact g2 y hy (by simp only [List.mem_cons, not_or]; exact ⟨e, hyX⟩)
      · rcases g6 y hy with e | e
        · exact .inl e
        · rw [e, e8pa]
          by_cases ey : y = x
          · subst ey; rw [up_same]; exact .inl rfl
          · rw [up_ne _ _ ey]; exact .inr rfl
    refine ldpa h9 ?_
    try simp only [NN_mk]
    refine ld_mk h9 hpD ?_
    cases hmk : ({ s8 with pa := pm } : St).mkd p with
    | true =>
      simp only [BIf_true]
      refine ldpa h9 ?_
      have hrank := F.rk x hx p hp
      have hMp := hM p hpD
      have hpXX : ∀ y ∈ x :: X, h y < h p := fun y hy => by
        rcases List.mem_cons.1 hy with rfl | hy
        · exact hrank
        · have := hXx y hy; omega
      · refine F29_call (ih (M - h p) (by omega) rfl h9 ag8 F8 r8 hpD hpXX B9 hm9R (by rw [e8pr]; exact hft) fun w' s' pm' R' C' m' g1 g2 g3 g4 g5 g6 _ g8 g9 g10 g11 g12 => back0 ?_)
        exact J3 w' s' pm' R' C' m' g1 g2 g3 g4 (by rw [g5, e8pr]) g6 g8 g9 (by rw [e8pr] at g10; exact g10) (f09.trans g12 fun y e => .inl e)
    | false =>
      simp only [BIf_false]
      refine ldpa h9 ?_
      try simp only [NN_mk]
      refine st_mk h9 hpD fun wa ha fa za => ?_
      refine J3 wa { s8 with mkd := up s8.mkd p true } pm _ _ m9 ha ag8 (F8.links rfl rfl rfl (fun _ => Iff.rfl) F8.Rn fun _ _ _ _ => ⟨rfl, rfl⟩) r8 e8pr (fun y _ => .inr rfl) (B9.fr fa fun e => hne p hpD (Eq.symm e)) hm9R (Int.le_refl _) (f09.trans fa fun y e => .inl (.inr (by have e : y = p := e; rw [e]; exact hpD)))
  have J1 : ∀ (s2 : St) (w2 : World), MS w2 D { s2 with pa := pm } → Blk w2 hb 45 [.pointer (some ⟨m, 0, none⟩), .int .u64 (size : Nat)] → Fr (fun y => y = hb ∨ y ∈ D) w w2 → s2.pr = s.pr → s2.dg = s.dg → s2.pa = s.pa → s2.ch = s.ch → Ring s2.nx s2.pv (B ++ A) → (∀ y, y ∉ C p → s2.nx y = s.nx y ∧ s2.pv y = s.pv y) → ((B ++ A = [] ∧ s2.nx x = x) ∨ ((B ++ A).head? = some (s2.nx x) ∧ s2.nx x ≠ x)) → F29_J1 k (some ⟨hb, 0, none⟩) (some ⟨x, 0, none⟩) w2 := by
    intro s2 w2 h2 B2 f2 e_pr e_dg e_pa e_ch hrBA hoth hnx
    unfold F29_J1
    try simp only [NN_mk]
    have ldpa : ∀ {w' : World} {t : St} {K : Option Addr → W}, MS w' D { t with pa := pm } → K (some ⟨p, 0, none⟩) w' → LoadT .ptr ((⟨x, 0, none⟩ : Addr).add 5) K w' := fun {w' t K} hm hK => ld_pa hm hx (by show K (oA (pm x)) w'; rw [hpx, hp]; exact hK)
    refine ldpa h2 ?_
    try simp only [NN_mk]
    refine ld_ch h2 hpD ?_
    have hchp : s2.ch p = (A ++ x :: B).head? := by rw [e_ch, F.ch p hpD, hC]
    have hrest : ∀ b ∈ D, b ≠ p → s2.ch b = (up C p (A ++ B) b).head? := fun b hbD e => by rw [e_ch, up_ne _ _ e]; exact F.ch b hbD
    show (RawS Try.prog (binS .eql 42 _ _ (.pointer (oA (s2.ch p))) _) _ _) w2
    rw [hchp]
    refine ptr_eql (h2.knownO fun b hb' => ?_) (h2.known hx) ?_
    · have : b ∈ A ++ x :: B := List.mem_of_mem_head? (by rw [hb']; rfl)
      rw [← hC] at this
      exact hCD b this
    cases A with
    | cons a A =>
      have hax : a ≠ x := fun e => by
        have := (List.nodup_cons.1 hn0).1
        rw [e] at this; simp at this
      have hdec : decide (oA ((a :: A ++ x :: B).head?) = some ⟨x, 0, none⟩) = false := by
        simp [oA, mA, hax]
      rw [hdec]
      simp only [BIf_false]
      refine J2 s2 w2 h2 B2 f2 e_pr e_dg e_pa (fun b hbD => ?_) hrBA hoth
      by_cases e : b = p
      · subst e; rw [up_same, hchp]; rfl
      · exact hrest b hbD e
    | nil =>
      have hdec : decide (oA (([] ++ x :: B : List Nat).head?) = some ⟨x, 0, none⟩) = true := by
        simp [oA, mA]
      rw [hdec]
      simp only [BIf_true]
      refine ld_nx h2 hx ?_
      have hnxD : s2.nx x ∈ D := by
        rcases hnx with ⟨_, e⟩ | ⟨e, _⟩
        · rw [e]; exact hx
        · have : s2.nx x ∈ B ++ [] := List.mem_of_mem_head? (by rw [e]; rfl)
          exact hCD _ ((hmemC _).2 (.inr this))
      refine ptr_neq (h2.known hnxD) (h2.known hx) ?_
      rcases hnx with ⟨e1, e2⟩ | ⟨e1, e2⟩
      · have hd : decide ((some (⟨s2.nx x, 0, none⟩ : Addr)) ≠ some ⟨x, 0, none⟩) = false := by simp [e2]
        show (BIf (decide ((some (⟨s2.nx x, 0, none⟩ : Addr)) ≠ some ⟨x, 0, none⟩)) _ _) w2
        rw [hd]
        simp only [BIf_false]
        refine ldpa h2 ?_
        try simp only [NN_mk]
        refine st_ch (v := none) h2 hpD fun w3 h3 f3 z3 => ?_
        refine J2 { s2 with ch := up s2.ch p none } w3 h3 (B2.fr f3 fun e => hne p hpD (Eq.symm e)) (f2.trans f3 fun y e => .inl (.inr (by have e : y = p := e; rw [e]; exact hpD))) e_pr e_dg e_pa (fun b hbD => ?_) hrBA hoth
        by_cases e : b = p
        · subst e
          show up s2.ch b none b = _
          rw [up_same, up_same]
          have : B = [] := by simpa using e1
          rw [this]; rfl
        · show up s2.ch p none b = _
          rw [up_ne _ _ e]; exact hrest b hbD e
      · have hd : decide ((some (⟨s2.nx x, 0, none⟩ : Addr)) ≠ some ⟨x, 0, none⟩) = true := by simp [e2]
        show (BIf (decide ((some (⟨s2.nx x, 0, none⟩ : Addr)) ≠ some ⟨x, 0, none⟩)) _ _) w2
        rw [hd]
        simp only [BIf_true]
        refine drw_intro fun w2' f2' z2' => ?_
        have h2' := h2.fr0 f2'
        refine ldpa h2' ?_
        try simp only [NN_mk]
        refine ld_nx h2' hx ?_
        refine st_ch (v := some (s2.nx x)) h2' hpD fun w3 h3 f3 z3 => ?_
        refine J2 { s2 with ch := up s2.ch p (some (s2.nx x)) } w3 h3 ((B2.fr f2' id).fr f3 fun e => hne p hpD (Eq.symm e)) ((f2.trans f2' fun _ h => h.elim).trans f3 fun y e => .inl (.inr (by have e : y = p := e; rw [e]; exact hpD))) e_pr e_dg e_pa (fun b hbD => ?_) hrBA hoth
        by_cases e : b = p
        · subst e
          show up s2.ch b (some (s2.nx x)) b = _
          rw [up_same, up_same]
          have : (B ++ []).head? = some (s2.nx x) := e1
          rw [List.append_nil] at this
          rw [← this]; rfl
        · show up s2.ch p (some (s2.nx x)) b = _
          rw [up_ne _ _ e]; exact hrest b hbD e
  try simp only [NN_mk]
  refine ld_nx h1 hx ?_
  refine ptr_neq (h1.known (hCD _ hnxC)) (h1.known hx) ?_
  by_cases ht : B ++ A = []
  · rw [ht] at hr0
    have hnx : s.nx x = x := hr0.1.1
    have hd : decide ((some (⟨s.nx x, 0, none⟩ : Addr)) ≠ some ⟨x, 0, none⟩) = false := by simp [hnx]
    show (BIf (decide ((some (⟨s.nx x, 0, none⟩ : Addr)) ≠ some ⟨x, 0, none⟩)) _ _) w1
    rw [hd]
    simp only [BIf_false]
    exact J1 { s with mkd := up s.mkd x false } w1 h1 B1 F1w rfl rfl rfl rfl (by rw [ht]; trivial) (fun _ _ => ⟨rfl, rfl⟩) (.inl ⟨ht, hnx⟩)
  · obtain ⟨o1, o2, o3⟩ := ring_out hr0 hn0 ht
    have hxt : x ∉ B ++ A := (List.nodup_cons.1 hn0).1
    have hnxx : s.nx x ≠ x := fun e => hxt (by rw [← e, o2]; exact List.head_mem ht)
    have hpvx : s.pv x ≠ x := fun e => hxt (by rw [← e, o3]; exact List.getLast_mem ht)
    have hd : decide ((some (⟨s.nx x, 0, none⟩ : Addr)) ≠ some ⟨x, 0, none⟩) = true := by simp [hnxx]
    show (BIf (decide ((some (⟨s.nx x, 0, none⟩ : Addr)) ≠ some ⟨x, 0, none⟩)) _ _) w1
    rw [hd]
    simp only [BIf_true]
    refine drw_intro fun w2 f2 z2 => ?_
    have h2 := h1.fr0 f2
    refine ld_nx h2 hx (ld_pv h2 hx ?_)
    try simp only [NN_mk]
    refine st_pv h2 (hCD _ hnxC) fun w3 h3 f3 z3 => ?_
    refine drw_intro fun w4 f4 z4 => ?_
    have h4 := h3.fr0 f4
    refine ld_pv h4 hx (ld_nx h4 hx ?_)
    show (NN (some (⟨up s.pv (s.nx x) (s.pv x) x, 0, none⟩ : Addr)) _) w4
    rw [up_ne _ _ (Ne.symm hnxx)]
    try simp only [NN_mk]
    refine st_nx h4 (hCD _ hpvC) fun w5 h5 f5 z5 => ?_
    have f15 : Fr (fun y => y = hb ∨ y ∈ D) w1 w5 := (((f2.mono fun _ h => h.elim).trans f3 fun y e => .inl (.inr (by have e : y = s.nx x := e; rw [e]; exact hCD _ hnxC))).trans f4 fun _ h => h.elim).trans f5 fun y e => .inl (.inr (by have e : y = s.pv x := e; rw [e]; exact hCD _ hpvC))
    refine J1 { s with mkd := up s.mkd x false, pv := up s.pv (s.nx x) (s.pv x), nx := up s.nx (s.pv x) (s.nx x) } w5 h5 ((((B1.fr f2 id).fr f3 fun e => hne _ (hCD _ hnxC) (Eq.symm e)).fr f4 id).fr f5 fun e => hne _ (hCD _ hpvC) (Eq.symm e)) (F1w.trans f15 fun y e => .inl e) rfl rfl rfl rfl o1 (fun y hy => ⟨up_ne _ _ fun e => hy (e ▸ hpvC), up_ne _ _ fun e => hy (e ▸ hnxC)⟩) (.inr ⟨?_, ?_⟩)
    · show _ = some (up s.nx (s.pv x) (s.nx x) x)
      rw [up_ne _ _ (Ne.symm hpvx), o2, List.head?_eq_some_head ht]
    · show up s.nx (s.pv x) (s.nx x) x ≠ x
      rw [up_ne _ _ (Ne.symm hpvx)]; exact hnxx
end
/-- decreaseKeyUnchecked. -/
theorem F28_spec {k : Value → W} {w : World} {hb : Nat} {D : List Nat} {pr : Nat → Int} {m : Nat} {x : Nat} {p : Int} (H : HP w hb D pr (some m)) (hx : x ∈ D) (hp : p < pr x) (hf : Fit p) (hDl : D.length < 100000)
    (hk : ∀ m' w', HP w' hb D (up pr x p) (some m') → Fr (fun y => y = hb ∨ y ∈ D) w w' → k (.tuple #[]) w') : F28 k (some ⟨hb, 0, none⟩) (some ⟨x, 0, none⟩) (fB p) w := by
  have hne := fun y hy => H.ne (x := y) hy
  obtain ⟨s, R, C, h, H⟩ := H
  have hpe := H.pe
  subst hpe
  have hRD : ∀ y ∈ R, y ∈ D := fun y hy => ((H.fo.Rm y).1 hy).1
  obtain ⟨hmR, hmin⟩ : m ∈ R ∧ ∀ y ∈ D, s.pr m ≤ s.pr y := by
    rcases H.mn with ⟨_, h⟩ | ⟨z, hz, h1, h2⟩
    · cases h
    · cases h1; exact ⟨hz, h2⟩
  have hmD := hRD m hmR
  have ft' : ∀ y ∈ D, Fit (up s.pr x p y) := fun y hy => by
    by_cases e : y = x
    · subst e; rw [up_same]; exact hf
    · rw [up_ne _ _ e]; exact H.ft y hy
  unfold F28
  try simp only [NN_mk]
  refine st_pr H.ms hx fun w1 h1 f1 z1 => ?_
  refine drw_intro fun w2 f2 z2 => ?_
  have h2 := h1.fr0 f2
  have F2 : Fr (fun y => y = hb ∨ y ∈ D) w w2 := (f1.mono fun y e => .inl (.inr (by have e : y = x := e; rw [e]; exact hx))).trans f2 fun _ h => h.elim
  have B2 := (H.hd.fr f1 fun e => hne x hx e).fr f2 id
  have fo2 : For { s with pr := up s.pr x p } D R C h := H.fo.links rfl rfl rfl (fun _ => Iff.rfl) H.fo.Rn fun _ _ _ _ => ⟨rfl, rfl⟩
  -- the end
  have J2 : ∀ (s5 : St) (R5 : List Nat) (C5 : Nat → List Nat) (m5 : Nat) (w5 : World), MS w5 D s5 → For s5 D R5 C5 h → Ring s5.nx s5.pv R5 → s5.pr = up s.pr x p → Ordd s5 D → Blk w5 hb 45 [.pointer (some ⟨m5, 0, none⟩), .int .u64 (D.length : Nat)] → m5 ∈ R5 → (x ∈ R5 ∨ s5.pr m5 < p) → (∀ y ∈ D, y ≠ x → s5.pr m5 ≤ s5.pr y) → Fr (fun y => y = hb ∨ y ∈ D) w w5 → F28_J2 k (some ⟨hb, 0, none⟩) (some ⟨x, 0, none⟩) w5 := by
    intro s5 R5 C5 m5 w5 g1 g2 g3 g4 g5 g6 g7 g8 g9 g10
    unfold F28_J2
    refine drw_intro fun w6 f6 z6 => ?_
    have h6 := g1.fr0 f6
    have B6 := g6.fr f6 id
    have hm5 := ((g2.Rm m5).1 g7).1
    try simp only [NN_mk]
    refine ld_pr h6 hx ?_
    refine load_ptr (i := 0) B6 rfl ?_
    try simp only [NN_mk]
    refine ld_pr h6 hm5 (fl_leq (by rw [g4]; exact ft' x hx) (by rw [g4]; exact ft' m5 hm5) ?_)
    have hpx : s5.pr x = p := by rw [g4, up_same]
    rw [hpx]
    refine ⟨by rw [B6.cell]; rfl, ?_⟩
    have F6 := g10.trans f6 fun _ h => h.elim
    by_cases hle : p ≤ s5.pr m5
    · rw [decide_eq_true hle]
      simp only [BIf_true]
      refine store_intro (i := 0) B6 (by simp) rfl fun w7 b7 f7 z7 => ?_
      refine hk x w7 ⟨s5, R5, C5, h, h6.fr f7 fun y hy e => hne y hy (Eq.symm e), g2, g3, g5, g4, b7, ft', .inr ⟨x, ?_, rfl, fun y hy => ?_⟩⟩ (F6.trans f7 fun y e => .inl (.inl e))
      · rcases g8 with h | h
        · exact h
        · omega
      · rw [← g4, hpx]
        by_cases e : y = x
        · rw [e, hpx]; exact Int.le_refl _
        · have := g9 y hy e; omega
    · rw [decide_eq_false hle]
      simp only [BIf_false]
      refine hk m5 w6 ⟨s5, R5, C5, h, h6, g2, g3, g5, g4, B6, ft', .inr ⟨m5, g7, rfl, fun y hy => ?_⟩⟩ F6
      rw [← g4]
      by_cases e : y = x
      · rw [e, hpx]; omega
      · exact g9 y hy e
  have chOK : ∀ y ∈ D, y ≠ x → ∀ b, s.pa y = some b → up s.pr x p b ≤ up s.pr x p y := fun y hy e b hb => by
    rw [up_ne _ _ e]
    have := H.or y hy b hb
    by_cases eb : b = x
    · subst eb; rw [up_same]; omega
    · rw [up_ne _ _ eb]; exact this
  have hmin' : m ≠ x → ∀ y ∈ D, y ≠ x → up s.pr x p m ≤ up s.pr x p y := fun hm y hy e => by
    rw [up_ne _ _ hm, up_ne _ _ e]; exact hmin y hy
  try simp only [NN_mk]
  refine ld_pa h2 hx ?_
  show (BIf (!(oA (s.pa x)).isNone) _ _) w2
  cases hpa : s.pa x with
  | none =>
    simp only [oA_none, Option.isNone_none, Bool.not_true, BIf_false]
    unfold F28_J1
    simp only [BIf_false]
    have hxR : x ∈ R := (H.fo.Rm x).2 ⟨hx, hpa⟩
    refine J2 _ R C m w2 h2 fo2 H.rr rfl (fun y hy b hb => ?_) B2 hmR (.inl hxR) (fun y hy e => ?_) F2
    · by_cases e : y = x
      · subst e; have hb : s.pa y = some b := hb; rw [hpa] at hb; cases hb
      · exact chOK y hy e b hb
    · by_cases em : m = x
      · subst em
        show up s.pr m p m ≤ up s.pr m p y
        rw [up_same, up_ne _ _ e]
        have := hmin y hy; omega
      · exact hmin' em y hy e
  | some q =>
    have hqD := H.fo.pD x hx q hpa
    have hqx : q ≠ x := fun e => by have := H.fo.rk x hx q hpa; rw [e] at this; omega
    have hmx : m ≠ x := fun e => by have := ((H.fo.Rm m).1 hmR).2; rw [e, hpa] at this; cases this
    simp only [oA_some, Option.isNone_some, Bool.not_false, BIf_true]
    refine ld_pr h2 hx ?_
    refine ld_pa h2 hx ?_
    show (NN (oA (s.pa x)) _) w2
    rw [hpa, oA_some]
    try simp only [NN_mk]
    refine ld_pr h2 hqD (fl_leq (ft' x hx) (ft' q hqD) ?_)
    have hc : w2.cell? ((⟨x, 0, none⟩ : Addr).add 5) = some (.pointer (some ⟨q, 0, none⟩)) := by
      show w2.cell? ⟨x, 5, none⟩ = _
      rw [(h2 x hx).cell]
      show some (Value.pointer (oA (s.pa x))) = _
      rw [hpa]; rfl
    refine ⟨hc, hc, ?_⟩
    unfold F28_J1
    show (BIf (decide (up s.pr x p x ≤ up s.pr x p q)) _ _) w2
    rw [show decide (up s.pr x p x ≤ up s.pr x p q) = decide (p ≤ s.pr q) by rw [up_same, up_ne _ _ hqx]]
    by_cases hle : p ≤ s.pr q
    · rw [decide_eq_true hle]
      simp only [BIf_true]
      obtain ⟨M, hM⟩ := bound_of h D
      refine F29_call (F29_spec hM hDl _ (s := { s with pr := up s.pr x p }) (pm := s.pa) (X := []) rfl h2 (fun _ _ _ => rfl) fo2 H.rr hx (fun y hy => by cases hy) B2 hmR ft' fun w' s' pm' R' C' m' g1 g2 g3 g4 g5 g6 g7 g8 g9 g10 g11 g12 => back0 ?_)
      have g1' : MS w' D s' := fun y hy => by
        have := g1 y hy
        have e : ndc { s' with pa := pm' } y = ndc s' y := by simp [ndc, g2 y hy (by simp)]
        rw [e] at this; exact this
      have g10' : up s.pr x p m' ≤ up s.pr x p m := g10
      refine J2 s' R' C' m' w' g1' g3 g4 g5 (fun y hy b hb => ?_) g8 g9 (.inl ((g3.Rm x).2 ⟨hx, g7⟩)) (fun y hy e => ?_) (F2.trans g12 fun y e => .inl e)
      · rw [g5]
        rcases g6 y hy with e | e
        · rw [e] at hb; cases hb
        · have e : s'.pa y = s.pa y := e
          rw [e] at hb
          have ex : y ≠ x := fun ey => by subst ey; rw [← e, g7] at hpa; cases hpa
          exact chOK y hy ex b hb
      · rw [g5]
        have h1 := hmin' hmx y hy e
        exact Int.le_trans g10' h1
    · rw [decide_eq_false hle]
      simp only [BIf_false]
      refine J2 _ R C m w2 h2 fo2 H.rr rfl (fun y hy b hb => ?_) B2 hmR (.inr ?_) (fun y hy e => hmin' hmx y hy e) F2
      · by_cases e : y = x
        · subst e
          have hb : s.pa y = some b := hb
          rw [hpa] at hb; cases hb
          show up s.pr y p q ≤ up s.pr y p y
          rw [up_same, up_ne _ _ hqx]; omega
        · exact chOK y hy e b hb
      · show up s.pr x p m < p
        rw [up_ne _ _ hmx]
        have := hmin q hqD; omega
/-- DecreaseKey, to less than it was. -/
theorem F22_spec {k : Value → W} {w : World} {hb : Nat} {D : List Nat} {pr : Nat → Int} {m : Option Nat} {x : Nat} {p : Int} (H : HP w hb D pr m) (hx : x ∈ D) (hp : p < pr x) (hf : Fit p) (hDl : D.length < 100000)
    (hk : ∀ m' w', HP w' hb D (up pr x p) (some m') → Fr (fun y => y = hb ∨ y ∈ D) w w' → k (.tuple #[.pointer (some ⟨x, 0, none⟩), .nilIface]) w') : F22 k (some ⟨hb, 0, none⟩) (some ⟨x, 0, none⟩) (fB p) w := by
  unfold F22
  refine F16_call (F16_spec H.hb (back_bool ?_))
  have hD0 : D ≠ [] := fun e => by rw [e] at hx; cases hx
  have hl0 : D.length ≠ 0 := fun e => hD0 (List.length_eq_zero_iff.1 e)
  rw [decide_eq_false hl0]
  simp only [BIf_false, Option.isNone_some, NN_mk]
  obtain ⟨z, hz, rfl, _⟩ := H.min hD0
  obtain ⟨vs, hv, h6⟩ := H.cell hx
  have ftx : Fit (pr x) := by obtain ⟨s, R, C, h, H⟩ := H; exact H.ft x hx
  refine LoadT_float.2 ⟨_, by show w.cell? ⟨x, 6, none⟩ = _; rw [hv.cell]; exact h6, ?_⟩
  refine fl_geq hf ftx ?_
  rw [decide_eq_false (by omega)]
  simp only [BIf_false]
  refine F28_call (F28_spec H hx hp hf hDl fun m' w' H' f' => back0 ?_)
  exact hk m' w' H' f'
end Go.Proofs.Ytlbeelgfpbkdbaa.E
