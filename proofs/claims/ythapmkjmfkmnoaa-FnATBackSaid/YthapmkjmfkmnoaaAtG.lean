/-
  Interval trees: the order of intervals; a place in a tree; a rotation on the way of add.
-/
import Derived.Test.YthapmkjmfkmnoaaAtF
namespace Go.Proofs.Ythapmkjmfkmnoaa.E
open Go
set_option linter.unusedSimpArgs false
set_option linter.unusedVariables false
set_option maxRecDepth 100000
set_option maxHeartbeats 8000000

def klt (x y : Spn) : Prop := x.lo < y.lo ∨ (x.lo = y.lo ∧ x.id < y.id)
theorem klt.trans {x y z : Spn} (h : klt x y) (h' : klt y z) : klt x z := by unfold klt at *; omega
theorem klt.asymm {x y : Spn} (h : klt x y) (h' : klt y x) : False := by unfold klt at *; omega
theorem cmp_r {x y : Spn} (h : klt x y) : cmpS x.lo y.lo x.id y.id = 1 := by
  unfold klt at h; unfold cmpS
  rcases h with h | ⟨h1, h2⟩
  · rw [if_pos h]
  · rw [if_neg (by omega), if_neg (by omega), if_pos h2]
theorem cmp_l {x y : Spn} (h : ¬ klt x y) : cmpS x.lo y.lo x.id y.id = 0 := by
  unfold klt at h; unfold cmpS
  by_cases h1 : y.lo > x.lo
  · exact absurd (.inl h1) h
  · rw [if_neg h1]
    by_cases h2 : y.lo < x.lo
    · rw [if_pos h2]
    · rw [if_neg h2, if_neg fun h3 => h (.inr ⟨by omega, h3⟩)]
theorem cmp_two (x y : Spn) : cmpS x.lo y.lo x.id y.id < 2 := by unfold cmpS; repeat' (split <;> try omega)
theorem klt_tri {x y : Spn} (h : x.id ≠ y.id) (h' : ¬ klt x y) : klt y x := by unfold klt at *; omega
def bx (n : Nd) : Nat × Spn := (n.b, n.x)
theorem CT.mk_flip {d : Nat} (hd : d < 2) (x y : CT) (n : Nd) : CT.mk (1 - d) x n y = CT.mk d y n x := by
  have : d = 0 ∨ d = 1 := by omega
  rcases this with rfl | rfl <;> rfl
/-- What is fixed while a tree turns. -/
structure Lok (D : List Nat) (dm : Nat) (Lb : List (Nat × Spn)) : Prop where
  hdm : dm ∈ D
  hD : ∀ e ∈ Lb, e.1 ∈ D
  nd : (dm :: Lb.map Prod.fst).Nodup
  so : (Lb.map Prod.snd).Pairwise klt
structure Plc (s : St) (dm : Nat) (Lb : List (Nat × Spn)) (c : Cx) (t : CT) : Prop where
  cx : CxR s dm c t.blk
  rt : RepT s t.blk t
  eq : (c.plug t).nds.map bx = Lb
section
variable {D : List Nat} {dm : Nat} {iv : Spn} {Lb : List (Nat × Spn)} {s : St} {c : Cx} {t : CT}
theorem Plc.bls (h : Plc s dm Lb c t) : (c.plug t).bls = Lb.map Prod.fst := by
  rw [← h.eq, List.map_map]; rfl
theorem Plc.xs (h : Plc s dm Lb c t) : (c.plug t).xs = Lb.map Prod.snd := by
  rw [← h.eq, List.map_map]; rfl
theorem Plc.nodup (h : Plc s dm Lb c t) (l : Lok D dm Lb) : (dm :: (t.bls ++ c.bls)).Nodup := by
  have p : (c.plug t).bls.Perm (t.bls ++ c.bls) := by
    have := (Cx.plug_perm c t).map Nd.b
    rw [List.map_append] at this; exact this
  rw [h.bls] at p
  exact (p.cons dm).nodup_iff.1 l.nd
theorem Plc.inD (h : Plc s dm Lb c t) (l : Lok D dm Lb) : ∀ b, b ∈ t.bls ∨ b ∈ c.bls → b ∈ D := fun b hb => by
  have p : (c.plug t).bls.Perm (t.bls ++ c.bls) := by
    have := (Cx.plug_perm c t).map Nd.b
    rw [List.map_append] at this; exact this
  have hm := p.mem_iff.2 (List.mem_append.2 hb)
  rw [h.bls] at hm
  obtain ⟨e, he, rfl⟩ := List.mem_map.1 hm
  exact l.hD e he
theorem sp_nodup (h : (dm :: (t.bls ++ c.bls)).Nodup) : t.bls.Nodup ∧ (dm :: c.bls).Nodup ∧ ∀ b ∈ t.bls, b ∉ c.bls ∧ b ≠ dm := by
  simp only [List.nodup_cons, List.nodup_append, List.mem_append, not_or] at h ⊢
  obtain ⟨⟨h1, h2⟩, h3, h4, h5⟩ := h
  exact ⟨h3, ⟨h2, h4⟩, fun b hb => ⟨fun hc => h5 b hb b hc rfl, fun e => h1 (e ▸ hb)⟩⟩
theorem fr_bls {d : Nat} {n : Nd} {o : CT} : (Cx.fr c d n o).bls = n.b :: (o.bls ++ c.bls) := by
  show List.map Nd.b (n :: (o.nds ++ c.nds)) = n.b :: (List.map Nd.b o.nds ++ List.map Nd.b c.nds)
  rw [List.map_cons, List.map_append]
theorem mk_mem {d b : Nat} {n : Nd} {x y : CT} : b ∈ (CT.mk d x n y).bls ↔ b = n.b ∨ b ∈ x.bls ∨ b ∈ y.bls := by
  rw [(CT.mk_bls d x y n).mem_iff]; simp
/-- One step down. -/
theorem Plc.down {sd : Nat} {x y : CT} {n : Nd} (h : Plc s dm Lb c (CT.mk sd x n y)) (hsd : sd < 2) : Plc s dm Lb (.fr c sd n y) x := by
  have rt := h.rt
  have cx := h.cx
  rw [CT.mk_blk] at rt cx
  obtain ⟨-, h1, h2, h3⟩ := (RepT.mk_iff hsd).1 rt
  have e := h2.blk
  exact ⟨⟨hsd, e, h1, h3, cx⟩, by rw [← e]; exact h2, h.eq⟩
theorem Plc.up {sd : Nat} {x y : CT} {n : Nd} (h : Plc s dm Lb (.fr c sd n y) x) : Plc s dm Lb c (CT.mk sd x n y) := by
  obtain ⟨h0, h1, h2, h3, h4⟩ := h.cx
  exact ⟨by rw [CT.mk_blk]; exact h4, by rw [CT.mk_blk]; exact (RepT.mk_iff h0).2 ⟨rfl, h2, by rw [h1]; exact h.rt, h3⟩, h.eq⟩
/-- Which child of its parent a tree is. -/
theorem CxR.loc {b : Nat} (h : CxR s dm c (some b)) (hb : b ∉ c.bls) : (if E.ch (s (c.blk dm)) 1 = some b then 1 else 0) = c.dir := by
  have h1 := h.ch
  have h2 := h.dir
  cases c with
  | top => exact if_pos h1
  | fr c d n o =>
    obtain ⟨h0, h1, _, h3, _⟩ := h
    have : d = 0 ∨ d = 1 := by omega
    rcases this with rfl | rfl
    · refine if_neg fun e => hb ?_
      have h3 := h3.blk
      rw [show 1 - 0 = 1 from rfl] at h3
      rw [fr_bls]
      refine List.mem_cons_of_mem _ (List.mem_append_left _ ?_)
      have e' : o.blk = some b := h3.symm.trans e
      obtain ⟨x, m, y, rfl, rfl⟩ := CT.sides e' 0
      exact mk_mem.2 (.inl rfl)
    · exact if_pos h1
theorem blk_mem {t : CT} {b : Nat} (h : t.blk = some b) : b ∈ t.bls := by
  obtain ⟨x, m, y, rfl, rfl⟩ := CT.sides h 0
  exact mk_mem.2 (.inl rfl)
theorem blk_memD {w : World} {w0 : World} (c : Cx) (hd : dm ∈ D) (hc : ∀ b ∈ c.bls, b ∈ D) : c.blk dm ∈ D := by
  cases c with
  | top => exact hd
  | fr c d n o => exact hc n.b (by rw [fr_bls]; exact List.mem_cons_self)
theorem CxR.kids {o : Option Nat} (h : CxR s dm c o) (hc : ∀ b ∈ c.bls, b ∈ D) (ho : ∀ a, o = some a → a ∈ D) : ∀ a, E.ch (s (c.blk dm)) 1 = some a → a ∈ D := fun a ha => by
  cases c with
  | top => exact ho a (h.symm.trans ha)
  | fr c d n t =>
    obtain ⟨h0, h1, _, h3, _⟩ := h
    have : d = 0 ∨ d = 1 := by omega
    rcases this with rfl | rfl
    · have h3 := h3.blk
      have e' : t.blk = some a := h3.symm.trans ha
      exact hc a (by rw [fr_bls]; exact List.mem_cons_of_mem _ (List.mem_append_left _ (blk_mem e')))
    · exact ho a (h1.symm.trans ha)
end
theorem mk_map (d : Nat) (x y : CT) (n : Nd) : (CT.mk d x n y).nds.map bx = if d = 0 then x.nds.map bx ++ bx n :: y.nds.map bx else y.nds.map bx ++ bx n :: x.nds.map bx := by
  unfold CT.mk; split <;> simp [CT.nds]
theorem plug_map (c : Cx) (t : CT) : (c.plug t).nds.map bx = c.pre.map bx ++ t.nds.map bx ++ c.post.map bx := by rw [Cx.plug_nds]; simp
theorem bx_of {n n' : Nd} (h1 : n'.b = n.b) (h2 : n'.x = n.x) : bx n' = bx n := by unfold bx; rw [h1, h2]
theorem plug_congr {c : Cx} {t t' : CT} (h : t'.nds.map bx = t.nds.map bx) : (c.plug t').nds.map bx = (c.plug t).nds.map bx := by rw [plug_map, plug_map, h]
section
variable {w0 w : World} {tb : Nat} {D0 D : List Nat} {s : St} {o0 : Option Nat} {m num : Nat} {iv : Spn} {k : Value → W} {dm : Nat} {Lb : List (Nat × Spn)}
  {ag : Option Addr → Value → Addr → Option Addr → Option Addr → Option Addr → Int → Int → Int → Int → Int → Int → Option Addr → W}
/-- The rotation of add. -/
theorem add_rot {c2 : Cx} {d2 d : Nat} {g p n : Nd} {o2 o l r : CT} {N : Nat} (h : WS w0 w tb D0 D s o0 m num iv) (lk : Lok D dm Lb) (pl : Plc s dm Lb (.fr (.fr c2 d2 g o2) d p o) (.nd l n r))
    (nr : n.red = true) (pr : p.red = true) (gr : g.red = false) (o2r : o2.red = false) (rb : (CT.nd l n r).RB N) (crb : (Cx.fr (.fr c2 d2 g o2) d p o).RB false N)
    (bn : BndT (.nd l n r)) (cbn : (Cx.fr (.fr c2 d2 g o2) d p o).Bnd (CT.nd l n r).xs) (eg : iv.hi ≤ g.mx ∧ g.mn ≤ iv.lo)
    (hk1 : d = d2 → ∀ w' s' g' p', WS w0 w' tb D0 D s' o0 m num iv → Plc s' dm Lb (.fr c2 d p' (CT.mk (1 - d) o2 g' o)) (.nd l n r) → p'.b = p.b → p'.x = p.x → p'.red = false → g'.x = g.x → g'.red = true → iv.hi ≤ p'.mx → p'.mn ≤ iv.lo →
      (Cx.fr c2 d p' (CT.mk (1 - d) o2 g' o)).RB true N → (Cx.fr c2 d p' (CT.mk (1 - d) o2 g' o)).Bnd (CT.nd l n r).xs →
      F40_J5 k ag (ta tb) iv.v ⟨dm, 0, none⟩ (some ⟨p.b, 0, none⟩) (some ⟨g.b, 0, none⟩) (some ⟨n.b, 0, none⟩) ((d : Nat) : Int) ((iv.id : Nat) : Int) iv.hi iv.lo (some ⟨c2.blk dm, 0, none⟩) w')
    (hk2 : d = 1 - d2 → ∀ w' s' g' p' n' B C, CT.mk d B n C = .nd l n r → WS w0 w' tb D0 D s' o0 m num iv → Plc s' dm Lb c2 (CT.mk d (CT.mk d o2 g' B) n' (CT.mk d C p' o)) → p'.x = p.x → p'.red = true → g'.x = g.x → g'.red = true → n'.b = n.b → n'.x = n.x → n'.red = false →
      iv.hi ≤ n'.mx → n'.mn ≤ iv.lo → (CT.mk d (CT.mk d o2 g' B) n' (CT.mk d C p' o)).RB (N + 1) → c2.RB false (N + 1) → BndT (CT.mk d (CT.mk d o2 g' B) n' (CT.mk d C p' o)) → c2.Bnd (CT.mk d (CT.mk d o2 g' B) n' (CT.mk d C p' o)).xs →
      F40_J5 k ag (ta tb) iv.v ⟨dm, 0, none⟩ (some ⟨p.b, 0, none⟩) (some ⟨g.b, 0, none⟩) (some ⟨n.b, 0, none⟩) ((d : Nat) : Int) ((iv.id : Nat) : Int) iv.hi iv.lo (some ⟨c2.blk dm, 0, none⟩) w') :
    F40_J4 k ag (ta tb) iv.v ⟨dm, 0, none⟩ (some ⟨p.b, 0, none⟩) (some ⟨g.b, 0, none⟩) (some ⟨n.b, 0, none⟩) ((d : Nat) : Int) ((d2 : Nat) : Int) ((1 - d2 : Nat) : Int) ((iv.id : Nat) : Int) iv.hi iv.lo (some ⟨c2.blk dm, 0, none⟩) true w := by
  generalize hN : (CT.nd l n r) = T at *
  have tblk : T.blk = some n.b := by rw [← hN]; rfl
  have tred : T.red = true := by rw [← hN]; exact nr
  have nodup := pl.nodup lk
  have inD := pl.inD lk
  obtain ⟨nT, nC, nX⟩ := sp_nodup nodup
  have pl1 := pl.up
  have pl2 := pl1.up
  have nodup2 := pl2.nodup lk
  obtain ⟨nT2, nC2, nX2⟩ := sp_nodup nodup2
  obtain ⟨hd, cx1, cx2, cx3, cx4⟩ := pl.cx
  obtain ⟨hd2, cy1, cy2, cy3, cy4⟩ := cx4
  have pD : p.b ∈ D := inD _ (.inr (by rw [fr_bls]; exact List.mem_cons_self))
  have gD : g.b ∈ D := inD _ (.inr (by rw [fr_bls, fr_bls]; exact List.mem_cons_of_mem _ (List.mem_append_right _ List.mem_cons_self)))
  have nD : n.b ∈ D := inD _ (.inl (blk_mem tblk))
  have c2D : ∀ b ∈ c2.bls, b ∈ D := fun b hb => inD b (.inr (by rw [fr_bls, fr_bls]; exact List.mem_cons_of_mem _ (List.mem_append_right _ (List.mem_cons_of_mem _ (List.mem_append_right _ hb)))))
  have hbD : c2.blk dm ∈ D := blk_memD (w := w) (w0 := w0) c2 lk.hdm c2D
  have gn2 : g.b ∉ c2.bls := (nX2 g.b (mk_mem.2 (.inl rfl))).1
  have chp : ∀ a, E.ch (s p.b) d2 = some a → a ∈ D := fun a ha => by
    by_cases e : d2 = d
    · rw [e, cx1, tblk] at ha
      cases ha; exact nD
    · rw [show d2 = 1 - d by omega] at ha
      have hb := cx3.blk
      exact inD a (.inr (by rw [fr_bls]; exact List.mem_cons_of_mem _ (List.mem_append_left _ (blk_mem (hb.symm.trans ha)))))
  have hs : decide (some n.b = E.ch (s p.b) d2) = decide (d = d2) := by
    by_cases e : d = d2
    · rw [← e, cx1, tblk]; simp
    · rw [show d2 = 1 - d by omega, cx3.blk]
      have : o.blk ≠ some n.b := fun hb => (nX n.b (blk_mem tblk)).1 (by rw [fr_bls]; exact List.mem_cons_of_mem _ (List.mem_append_left _ (blk_mem hb)))
      rw [decide_eq_false (fun e => this e.symm), decide_eq_false (by omega)]
  obtain ⟨rb1, rb2, rb3⟩ := crb
  rw [pr, if_pos rfl] at rb3
  obtain ⟨rb4, rb5, rb6⟩ := rb3
  rw [gr, if_neg (by decide)] at rb6
  obtain ⟨-, or⟩ := rb2 pr
  obtain ⟨bn1, bn2, bn3⟩ := cbn
  obtain ⟨bn4, bn5, bn6⟩ := bn3
  -- bounds of the tree at g
  have bG : BndT (CT.mk d2 (CT.mk d T p o) g o2) := BndT.mk_iff.2 ⟨fun z hz => bn4 z (by
    have e : ∀ z, z ∈ (CT.mk d T p o).xs ↔ z ∈ p.x :: (T.xs ++ o.xs) := fun z => by
      have := ((CT.mk_nds d T o p).map Nd.x).mem_iff (a := z)
      unfold CT.xs; rw [this]; simp
    simp only [List.mem_cons, List.mem_append, e] at hz ⊢
    exact hz), BndT.mk_iff.2 ⟨bn1, bn, bn2⟩, bn5⟩
  have pl2e := pl2.eq
  by_cases e : d = d2
  · -- a single one
    obtain rfl := e
    have dd : 1 - (1 - d) = d := by omega
    have eT : CT.mk d (CT.mk d T p o) g o2 = CT.mk (1 - d) o2 g (CT.mk (1 - d) o p T) := by rw [CT.mk_flip hd, CT.mk_flip hd]
    have R : RepT s (some g.b) (CT.mk (1 - d) o2 g (CT.mk (1 - d) o p T)) := by rw [← eT]; have := pl2.rt; rw [CT.mk_blk] at this; exact this
    have nn : (CT.mk (1 - d) o2 g (CT.mk (1 - d) o p T)).bls.Nodup := by rw [← eT]; exact nT2
    have nn' := three_nodup nn
    refine J4 (r := p.b) (ld := c2.dir) (single := true) (Q := fun s2 => ∃ g' p', RepT s2 (some p.b) (CT.mk (1 - d) (CT.mk (1 - d) o2 g' o) p' T) ∧ CxR s2 dm c2 (some g.b) ∧ g'.b = g.b ∧ g'.x = g.x ∧ g'.red = true ∧ p'.b = p.b ∧ p'.x = p.x ∧ p'.red = false ∧ BndT (CT.mk (1 - d) (CT.mk (1 - d) o2 g' o) p' T) ∧ g.mx ≤ p'.mx ∧ p'.mn ≤ g.mn)
      h hbD gD pD nD hd (cy4.kids c2D fun a e => by cases e; exact gD) chp (cy4.loc gn2) (by rw [hs]; simp) (fun w1 K h1 hK => ?_) fun w3 s2 ⟨g', p', q1, q2, q3, q4, q5, q6, q7, q8, q9, q10, q11⟩ h3 => ?_
    · rw [if_pos rfl]
      refine rotT (b := g) (c := p) h1.ms (by omega) R nn (fun y hy => ?_) fun w' s' b' c' m' r' e1 e2 e3 e4 e5 e6 bd t1 t2 oth f' => hK w' s' (h1.upd m' f' fun b hb => ?_) ⟨b', c', r', ?_, e1, e2, e3, e4, e5, e6, bd (by rw [← eT]; exact bG), t1, t2⟩
      · rw [← eT] at hy
        exact pl2.inD lk y (.inl hy)
      · rcases hb with rfl | rfl
        · exact gD
        · exact pD
      · refine cy4.frame (fun y hy => oth y (fun e => gn2 (e ▸ hy)) fun e => ?_) (oth dm (fun e => ?_) fun e => ?_)
        · exact (nX2 p.b (mk_mem.2 (.inr (.inl (mk_mem.2 (.inl rfl)))))).1 (e ▸ hy)
        · exact (nX2 g.b (mk_mem.2 (.inl rfl))).2 e.symm
        · exact (nX2 p.b (mk_mem.2 (.inr (.inl (mk_mem.2 (.inl rfl)))))).2 e.symm
    · have eN : CT.mk (1 - d) (CT.mk (1 - d) o2 g' o) p' T = CT.mk d T p' (CT.mk (1 - d) o2 g' o) := CT.mk_flip hd _ _ _
      rw [eN] at q1 q9
      have bls' : (CT.mk d T p' (CT.mk (1 - d) o2 g' o)).nds.map bx = (CT.mk d (CT.mk d T p o) g o2).nds.map bx := by
        rw [eT]
        have e1 := bx_of q3 q4
        have e2 := bx_of q6 q7
        have : d = 0 ∨ d = 1 := by omega
        rcases this with rfl | rfl <;> simp [CT.mk, CT.nds, e1, e2]
      have hnot : ∀ b ∈ (CT.mk d T p' (CT.mk (1 - d) o2 g' o)).bls, b ≠ c2.blk dm := fun b hb e => by
        have e0 : (CT.mk d T p' (CT.mk (1 - d) o2 g' o)).bls = (CT.mk d (CT.mk d T p o) g o2).bls := by
          have := congrArg (List.map Prod.fst) bls'
          rw [List.map_map, List.map_map] at this; exact this
        rw [e0] at hb
        have := nX2 b hb
        cases c2 with
        | top => exact this.2 e
        | fr c3 d3 n3 o3 => exact this.1 (by rw [fr_bls, e]; exact List.mem_cons_self)
      have cx' := q2.set (o' := some p.b) nC2
      have rt' := q1.frame (s' := up s2 (c2.blk dm) (setC (s2 (c2.blk dm)) c2.dir (some p.b))) fun b hb => up_ne (hnot b hb)
      have pl' : Plc (up s2 (c2.blk dm) (setC (s2 (c2.blk dm)) c2.dir (some p.b))) dm Lb c2 (CT.mk d T p' (CT.mk (1 - d) o2 g' o)) := ⟨by rw [CT.mk_blk, q6]; exact cx', by rw [CT.mk_blk, q6]; exact rt', by rw [plug_congr bls']; exact pl2e⟩
      refine hk1 rfl w3 _ g' p' h3 (pl'.down hd) q6 q7 q8 q4 q5 (Int.le_trans eg.1 q10) (Int.le_trans q11 eg.2) ⟨(CT.mk_RB_red q5).2 ⟨rb4, rb1, o2r, or⟩, (fun h => by rw [q8] at h; cases h), by rw [q8, if_neg (by decide)]; exact rb6⟩ ?_
      obtain ⟨z1, z2, z3⟩ := BndT.mk_iff.1 q9
      refine ⟨z1, z3, bn6.mono fun z hz => ?_⟩
      have e1 : ∀ z, z ∈ p'.x :: (T.xs ++ (CT.mk (1 - d) o2 g' o).xs) ↔ z ∈ (CT.mk d T p' (CT.mk (1 - d) o2 g' o)).xs := fun z => by
        have := ((CT.mk_nds d T (CT.mk (1 - d) o2 g' o) p').map Nd.x).mem_iff (a := z)
        unfold CT.xs; rw [this]; simp
      have e2 : (CT.mk d T p' (CT.mk (1 - d) o2 g' o)).xs = (CT.mk d (CT.mk d T p o) g o2).xs := by
        have := congrArg (List.map Prod.snd) bls'
        rw [List.map_map, List.map_map] at this; exact this
      rw [e1, e2] at hz
      have e3 := ((CT.mk_nds d (CT.mk d T p o) o2 g).map Nd.x).mem_iff (a := z)
      have e4 := ((CT.mk_nds d T o p).map Nd.x).mem_iff (a := z)
      have hz := e3.1 hz
      simp only [List.map_cons, List.map_append, List.mem_cons, List.mem_append] at hz e4 ⊢
      unfold CT.xs
      rcases hz with hz | hz | hz
      · exact .inl hz
      · exact .inr (.inl (e4.1 hz))
      · exact .inr (.inr hz)
  · -- a double one
    have e : d2 = 1 - d := by omega
    subst e
    have dd : 1 - (1 - d) = d := by omega
    obtain ⟨B, n0, C, hBC, hn0⟩ := CT.sides tblk d
    have hnn : n0 = n := by
      rw [← hN] at hBC
      unfold CT.mk at hBC
      split at hBC <;> (injection hBC with _ h2 _; exact h2.symm)
    subst hnn
    have eT : CT.mk (1 - d) (CT.mk d T p o) g o2 = CT.mk d o2 g (CT.mk d (CT.mk d B n0 C) p o) := by rw [CT.mk_flip hd, hBC]
    have R : RepT s (some g.b) (CT.mk d o2 g (CT.mk d (CT.mk d B n0 C) p o)) := by rw [← eT]; have := pl2.rt; rw [CT.mk_blk] at this; exact this
    have nn : (CT.mk d o2 g (CT.mk d (CT.mk d B n0 C) p o)).bls.Nodup := by rw [← eT]; exact nT2
    have mp : p.b ∈ (CT.mk (1 - d) (CT.mk d T p o) g o2).bls := mk_mem.2 (.inr (.inl (mk_mem.2 (.inl rfl))))
    have mn : n0.b ∈ (CT.mk (1 - d) (CT.mk d T p o) g o2).bls := mk_mem.2 (.inr (.inl (mk_mem.2 (.inr (.inl (blk_mem tblk))))))
    refine J4 (r := n0.b) (ld := c2.dir) (single := false) (Q := fun s2 => ∃ g' p' n', RepT s2 (some n0.b) (CT.mk d (CT.mk d o2 g' B) n' (CT.mk d C p' o)) ∧ CxR s2 dm c2 (some g.b) ∧ g'.b = g.b ∧ g'.x = g.x ∧ g'.red = true ∧ p'.b = p.b ∧ p'.x = p.x ∧ p'.red = true ∧ n'.b = n0.b ∧ n'.x = n0.x ∧ n'.red = false ∧ BndT (CT.mk d (CT.mk d o2 g' B) n' (CT.mk d C p' o)) ∧ g.mx ≤ n'.mx ∧ n'.mn ≤ g.mn)
      h hbD gD pD nD hd2 (cy4.kids c2D fun a e => by cases e; exact gD) chp (cy4.loc gn2) (by rw [hs]; exact decide_eq_false e) (fun w1 K h1 hK => ?_) fun w3 s2 ⟨g', p', n', q1, q2, q3, q4, q5, q6, q7, q8, q9, q10, q11, q12, q13, q14⟩ h3 => ?_
    · rw [if_neg (by decide), dd]
      refine rot2T (b := g) (c := p) (e := n0) h1.ms hd R nn (fun y hy => ?_) fun w' s' b' c' e' m' r' e1 e2 e3 e4 e5 e6 e7 e8 e9 bd t1 t2 oth f' => hK w' s' (h1.upd m' f' fun b hb => ?_) ⟨b', c', e', r', ?_, e1, e2, e3, e4, e5, e6, e7, e8, e9, bd (by rw [← eT]; exact bG), t1, t2⟩
      · rw [← eT] at hy
        exact pl2.inD lk y (.inl hy)
      · rcases hb with rfl | rfl | rfl
        · exact gD
        · exact pD
        · exact nD
      · refine cy4.frame (fun y hy => oth y (fun e => gn2 (e ▸ hy)) (fun e => ?_) fun e => ?_) (oth dm (fun e => ?_) (fun e => ?_) fun e => ?_)
        · exact (nX2 p.b mp).1 (e ▸ hy)
        · exact (nX2 n0.b mn).1 (e ▸ hy)
        · exact (nX2 g.b (mk_mem.2 (.inl rfl))).2 e.symm
        · exact (nX2 p.b mp).2 e.symm
        · exact (nX2 n0.b mn).2 e.symm
    · have bls' : (CT.mk d (CT.mk d o2 g' B) n' (CT.mk d C p' o)).nds.map bx = (CT.mk (1 - d) (CT.mk d T p o) g o2).nds.map bx := by
        rw [eT]
        have e1 := bx_of q3 q4
        have e2 := bx_of q6 q7
        have e3 := bx_of q9 q10
        have : d = 0 ∨ d = 1 := by omega
        rcases this with rfl | rfl <;> simp [CT.mk, CT.nds, e1, e2, e3]
      have hnot : ∀ b ∈ (CT.mk d (CT.mk d o2 g' B) n' (CT.mk d C p' o)).bls, b ≠ c2.blk dm := fun b hb e => by
        have e0 : (CT.mk d (CT.mk d o2 g' B) n' (CT.mk d C p' o)).bls = (CT.mk (1 - d) (CT.mk d T p o) g o2).bls := by
          have := congrArg (List.map Prod.fst) bls'
          rw [List.map_map, List.map_map] at this; exact this
        rw [e0] at hb
        have := nX2 b hb
        cases c2 with
        | top => exact this.2 e
        | fr c3 d3 n3 o3 => exact this.1 (by rw [fr_bls, e]; exact List.mem_cons_self)
      have cx' := q2.set (o' := some n0.b) nC2
      have rt' := q1.frame (s' := up s2 (c2.blk dm) (setC (s2 (c2.blk dm)) c2.dir (some n0.b))) fun b hb => up_ne (hnot b hb)
      have pl' : Plc (up s2 (c2.blk dm) (setC (s2 (c2.blk dm)) c2.dir (some n0.b))) dm Lb c2 (CT.mk d (CT.mk d o2 g' B) n' (CT.mk d C p' o)) := ⟨by rw [CT.mk_blk, q9]; exact cx', by rw [CT.mk_blk, q9]; exact rt', by rw [plug_congr bls']; exact pl2e⟩
      rw [hBC, CT.mk_RB_red nr] at rb
      obtain ⟨u1, u2, u3, u4⟩ := rb
      refine hk2 (by omega) w3 _ g' p' n' B C (by rw [← hBC]) h3 pl' q7 q8 q4 q5 q9 q10 q11 (Int.le_trans eg.1 q13) (Int.le_trans q14 eg.2) ((CT.mk_RB_black q11).2 ⟨N, rfl, (CT.mk_RB_red q5).2 ⟨rb4, u1, o2r, u3⟩, (CT.mk_RB_red q8).2 ⟨u2, rb1, u4, or⟩⟩) rb6 q12 (bn6.mono fun z hz => ?_)
      have e2 : (CT.mk d (CT.mk d o2 g' B) n' (CT.mk d C p' o)).xs = (CT.mk (1 - d) (CT.mk d T p o) g o2).xs := by
        have := congrArg (List.map Prod.snd) bls'
        rw [List.map_map, List.map_map] at this; exact this
      rw [e2] at hz
      have e3 := ((CT.mk_nds (1 - d) (CT.mk d T p o) o2 g).map Nd.x).mem_iff (a := z)
      have e4 := ((CT.mk_nds d T o p).map Nd.x).mem_iff (a := z)
      have hz := e3.1 hz
      simp only [List.map_cons, List.map_append, List.mem_cons, List.mem_append] at hz e4 ⊢
      unfold CT.xs
      rcases hz with hz | hz | hz
      · exact .inl hz
      · exact .inr (.inl (e4.1 hz))
      · exact .inr (.inr hz)
end
end Go.Proofs.Ythapmkjmfkmnoaa.E
