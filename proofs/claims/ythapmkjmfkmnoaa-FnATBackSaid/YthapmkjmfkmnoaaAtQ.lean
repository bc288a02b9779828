/-
  Interval trees: delete.
-/
import Derived.Test.YthapmkjmfkmnoaaAtP
namespace Go.Proofs.Ythapmkjmfkmnoaa.E
open Go
set_option linter.unusedSimpArgs false
set_option linter.unusedVariables false
set_option maxRecDepth 100000
set_option maxHeartbeats 8000000

section
variable {w0 w : World} {tb : Nat} {D0 D : List Nat} {s : St} {o0 : Option Nat} {m num : Nat} {iv : Spn} {k : Value → W} {dm d sd : Nat} {Lb : List (Nat × Spn)} {c : Cx} {L : List Spn} {found pa : Option Addr}
  {ag : Option Addr → Addr → Option Addr → Option Addr → Int → Int → Option Addr → Int → W}
theorem frs_nds : ∀ (c : Cx) {n : Nd}, n ∈ c.frs → n ∈ c.nds
  | .top, _, h => by cases h
  | .fr c d m o, n, h => by
    rcases List.mem_cons.1 h with rfl | h
    · exact List.mem_cons_self
    · exact List.mem_cons_of_mem _ (List.mem_append_right _ (frs_nds c h))
/-- What delete leaves. -/
def FinD (w0 : World) (tb : Nat) (D0 : List Nat) (m num : Nat) (iv : Spn) (L : List Spn) (k : Value → W) : Prop := ∀ w' D s' T z, WS w0 w' tb D0 D s' T.blk m (num - 1) iv → (∀ b ∈ T.bls, b ∈ D) → RepT s' T.blk T → T.red = false → (∃ N, T.RB N) → T.bls.Nodup → T.xs.Pairwise klt → z.id = iv.id → L.Perm (z :: T.xs) → k (.tuple #[]) w'
theorem del_fin {c2 : Cx} {p : Nd} {o : CT} (hlo : ∀ z ∈ L, z.id = iv.id → z.lo = iv.lo) (h : WS w0 w tb D0 D s o0 m num iv) (ds : DS D dm iv L s Lb (.fr c2 d p o) .lf found pa) (hn1 : 1 ≤ num) (hn2 : num < 1000000000) (hfin : FinD w0 tb D0 m num iv L k) :
    F41_L1 k ag (ta tb) ⟨dm, 0, none⟩ found pa ((iv.id : Nat) : Int) ((d : Nat) : Int) (some ⟨p.b, 0, none⟩) iv.lo w := by
  obtain ⟨lk, pl, pre, post, ⟨K, rb, crb⟩, col, eL, fo, epa, htop⟩ := ds
  obtain rfl : K = 0 := rb
  rcases fo with ⟨-, z, hz, -⟩ | ⟨z, hz, rfl, hzi⟩
  · cases hz
  have hd : d < 2 := pl.cx.dir
  have plP := pl.up
  obtain ⟨pD, px, cL, cO, -, -, -, -, oD⟩ := kidsD plP lk hd
  have hh : Hd (s p.b) p := pl.cx.2.2.1
  have hloB : ∀ z ∈ Lb.map Prod.snd, z.id = iv.id → z.lo = iv.lo := by rw [eL]; exact hlo
  have ends : (Cx.plug (.fr c2 d p o) .lf).nds = (Cx.fr c2 d p o).pre ++ (Cx.fr c2 d p o).post := by rw [Cx.plug_nds]; simp [CT.nds]
  have eq := pl.eq
  rw [ends] at eq
  have zm := frs_mem _ hz
  have zl : z.x.lo = iv.lo := hloB z.x (by
    rw [← eq, List.map_map]
    exact List.mem_map.2 ⟨z, List.mem_append.2 zm, rfl⟩) hzi
  have so := lk.so
  rw [← eq, List.map_map, List.map_append] at so
  have zp : z ∈ (Cx.fr c2 d p o).post := by
    rcases zm with h | h
    · have := pre z h
      unfold klt at this; omega
    · exact h
  obtain ⟨rest, hpost⟩ : ∃ rest, (Cx.fr c2 d p o).post = z :: rest := by
    cases hp : (Cx.fr c2 d p o).post with
    | nil => rw [hp] at zp; cases zp
    | cons q rest =>
      rw [hp] at zp
      rcases List.mem_cons.1 zp with rfl | hm
      · exact ⟨rest, rfl⟩
      · exfalso
        rw [hp] at so
        have := (List.pairwise_append.1 so).2.1
        rw [List.map_cons] at this
        have h1 : klt q.x z.x := (List.pairwise_cons.1 this).1 z.x (List.mem_map.2 ⟨z, hm, rfl⟩)
        have h2 := post q (by rw [hp]; exact List.mem_cons_self)
        unfold klt at h1 h2
        omega
  have zD : z.b ∈ D := pl.inD lk _ (.inr (List.mem_map.2 ⟨z, frs_nds _ hz, rfl⟩))
  have c2D : ∀ b ∈ c2.bls, b ∈ D := fun b hb => pl.inD lk b (.inr (by rw [fr_bls]; exact List.mem_cons_of_mem _ (List.mem_append_right _ hb)))
  have gD : c2.blk dm ∈ D := blk_memD (w := w) (w0 := w0) c2 lk.hdm c2D
  obtain ⟨nT, nC2, nX2⟩ := sp_nodup (plP.nodup lk)
  have pn2 : p.b ∉ c2.bls := (nX2 p.b (mk_mem.2 (.inl rfl))).1
  have cy : CxR s dm c2 (some p.b) := by have := plP.cx; rw [CT.mk_blk] at this; exact this
  have hloc := cy.loc pn2
  have kg := cy.kids c2D fun a e => by cases e; exact pD
  have epa : pa = some ⟨c2.blk dm, 0, none⟩ := epa
  rw [epa]
  have hoo : ch (s p.b) (if (oA (ch (s p.b) 0)).isNone = true then 1 else 0) = o.blk := by
    have : d = 0 ∨ d = 1 := by omega
    rcases this with rfl | rfl
    · rw [cL]; exact cO
    · have c0 : ch (s p.b) 0 = o.blk := cO
      have c1 : ch (s p.b) 1 = none := cL
      rw [c0]
      cases ho : o.blk with
      | none => exact c1
      | some a => exact c0.trans ho
  refine D_end (ld := c2.dir) (oo := o.blk) h zD pD gD hh hn1 hn2 hd cL kg hloc hoo fun w' h' => ?_
  -- the tree behind it
  have cx1 : CxR (took s z.b p) dm (c2.re z.b p) (some p.b) := cy.took
  have cx2 := cx1.set (o' := o.blk) (by rw [cx_re_bls]; exact nC2)
  rw [cx_re_blk, cx_re_dir] at cx2
  have rto : RepT s o.blk o := by
    have rt := plP.rt
    rw [CT.mk_blk] at rt
    have := ((RepT.mk_iff hd).1 rt).2.2.2
    rw [cO] at this
    exact this
  have hnot : ∀ b ∈ (o.re z.b p).bls, b ≠ c2.blk dm := fun b hb e => by
    rw [ct_re_bls] at hb
    have := nX2 b (mk_mem.2 (.inr (.inr hb)))
    cases c2 with
    | top => exact this.2 e
    | fr c3 d3 n3 o3 => exact this.1 (by rw [fr_bls, e]; exact List.mem_cons_self)
  have rt2 : RepT (up (took s z.b p) (c2.blk dm) (setC (took s z.b p (c2.blk dm)) c2.dir o.blk)) o.blk (o.re z.b p) := rto.took.frame fun b hb => up_ne (hnot b hb)
  generalize (up (took s z.b p) (c2.blk dm) (setC (took s z.b p (c2.blk dm)) c2.dir o.blk)) = s2 at cx2 rt2 h'
  have R := cx2.plug rt2
  -- red and black
  obtain ⟨crb1, crb2, crb3⟩ := crb
  have rb2 : ∃ N, ((c2.re z.b p).plug (o.re z.b p)).RB N := by
    refine Cx.RB.plug (n := 0) ((ct_re_RB _ _ _ _).2 crb1) ?_
    rw [ct_re_red, cx_re_RB]
    cases hp : p.red with
    | true =>
      rw [(crb2 hp).2]
      rw [hp, if_pos rfl] at crb3
      exact crb3.black
    | false =>
      rcases col with e | e | e
      · rw [hp] at e; cases e
      · cases e
      · rw [e.1]; trivial
  -- blocks
  have nodesP : ((c2.re z.b p).plug (o.re z.b p)).nds = (c2.pre ++ o.nds ++ c2.post).map (reN z.b p) := by
    rw [Cx.plug_nds, cx_re_pre, cx_re_post, ct_re_nds, List.map_append, List.map_append]
  have blsP : ((c2.re z.b p).plug (o.re z.b p)).bls = (c2.pre ++ o.nds ++ c2.post).map Nd.b := by
    unfold CT.bls
    rw [nodesP, List.map_map]
    exact List.map_congr_left fun n _ => re_b _ _ n
  have eqb : (Cx.fr c2 d p o).pre.map Nd.b ++ (Cx.fr c2 d p o).post.map Nd.b = Lb.map Prod.fst := by
    rw [← eq, List.map_map, ← List.map_append]; rfl
  have nd := lk.nd
  have xsL : L = (Cx.fr c2 d p o).pre.map Nd.x ++ (Cx.fr c2 d p o).post.map Nd.x := by
    rw [← eL, ← eq, List.map_map, ← List.map_append]; rfl
  have soL : L.Pairwise klt := by rw [← eL]; exact lk.so
  have key : (((c2.re z.b p).plug (o.re z.b p)).bls.Sublist (Lb.map Prod.fst)) ∧ L.Perm (z.x :: ((c2.re z.b p).plug (o.re z.b p)).xs) ∧ ((c2.re z.b p).plug (o.re z.b p)).xs.Sublist L := by
    have xsP : ((c2.re z.b p).plug (o.re z.b p)).xs = ((c2.pre ++ o.nds ++ c2.post).map (reN z.b p)).map Nd.x := by unfold CT.xs; rw [nodesP]
    have ndb := (List.nodup_cons.1 nd).2
    rw [← eqb] at ndb
    have two : d = 0 ∨ d = 1 := by omega
    rcases two with rfl | rfl
    · have e1 : (Cx.fr c2 0 p o).pre = c2.pre := by simp [Cx.pre]
      have e2 : (Cx.fr c2 0 p o).post = p :: (o.nds ++ c2.post) := by simp [Cx.post]
      rw [e2] at hpost
      injection hpost with ez er
      subst ez
      rw [e1, e2] at eqb xsL ndb
      rw [List.map_cons] at ndb
      have ndb := (List.perm_middle.nodup_iff.1 ndb)
      have np := (List.nodup_cons.1 ndb).1
      have keep : (c2.pre ++ o.nds ++ c2.post).map (reN p.b p) = c2.pre ++ o.nds ++ c2.post := map_re fun n hn e => np (by
        rw [← e]
        have : n ∈ c2.pre ++ (o.nds ++ c2.post) := by rw [← List.append_assoc]; exact hn
        rw [← List.map_append]
        exact List.mem_map.2 ⟨n, this, rfl⟩)
      rw [blsP, xsP, keep, ← eqb, xsL]
      refine ⟨?_, ?_, ?_⟩
      · rw [List.map_append, List.map_append, List.map_cons, List.map_append, List.append_assoc]
        exact List.Sublist.append_left (List.sublist_cons_self _ _) _
      · rw [List.map_append, List.map_append, List.map_cons, List.map_append, List.append_assoc]
        exact List.perm_middle
      · rw [List.map_append, List.map_append, List.map_cons, List.map_append, List.append_assoc]
        exact List.Sublist.append_left (List.sublist_cons_self _ _) _
    · have e1 : (Cx.fr c2 1 p o).pre = c2.pre ++ (o.nds ++ [p]) := by simp [Cx.pre]
      have e2 : (Cx.fr c2 1 p o).post = c2.post := by simp [Cx.post]
      rw [e2] at hpost
      rw [e1, e2, hpost] at eqb xsL ndb
      have np : ∀ n, n ∈ c2.pre ∨ n ∈ o.nds ∨ n ∈ rest → n.b ≠ z.b := fun n hn e => by
        rw [List.map_cons] at ndb
        have ndb := (List.perm_middle.nodup_iff.1 ndb)
        refine (List.nodup_cons.1 ndb).1 ?_
        rw [← e, ← List.map_append]
        refine List.mem_map.2 ⟨n, ?_, rfl⟩
        simp only [List.mem_append]
        rcases hn with h | h | h
        · exact .inl (.inl h)
        · exact .inl (.inr (.inl h))
        · exact .inr h
      have rez : (reN z.b p z).x = p.x := by unfold reN; rw [if_pos rfl]
      have xs3 : ((c2.re z.b p).plug (o.re z.b p)).xs = c2.pre.map Nd.x ++ (o.nds.map Nd.x ++ p.x :: rest.map Nd.x) := by
        have m1 : c2.pre.map (reN z.b p) = c2.pre := map_re fun n hn => np n (.inl hn)
        have m2 : o.nds.map (reN z.b p) = o.nds := map_re fun n hn => np n (.inr (.inl hn))
        have m3 : rest.map (reN z.b p) = rest := map_re fun n hn => np n (.inr (.inr hn))
        rw [xsP, hpost]
        simp only [List.map_append, List.map_cons, m1, m2, m3, rez, List.append_assoc]
      have xsL3 : L = c2.pre.map Nd.x ++ (o.nds.map Nd.x ++ p.x :: z.x :: rest.map Nd.x) := by rw [xsL]; simp
      refine ⟨?_, ?_, ?_⟩
      · rw [blsP, ← eqb, hpost]
        simp only [List.map_append, List.map_cons, List.map_nil, List.append_assoc, List.singleton_append]
        exact List.Sublist.append_left (List.Sublist.append_left (List.sublist_cons_self _ _) _) _
      · rw [xs3, xsL3]
        have g : ∀ (a b : List Spn) (x y : Spn) (r : List Spn), (a ++ (b ++ x :: y :: r)).Perm (y :: (a ++ (b ++ x :: r))) := fun a b x y r => by
          have h1 : a ++ (b ++ x :: y :: r) = (a ++ b ++ [x]) ++ y :: r := by simp
          have h2 : a ++ (b ++ x :: r) = (a ++ b ++ [x]) ++ r := by simp
          rw [h1, h2]; exact List.perm_middle
        exact g _ _ _ _ _
      · rw [xs3, xsL3]
        exact List.Sublist.append_left (List.Sublist.append_left (List.Sublist.cons_cons _ (List.sublist_cons_self _ _)) _) _
  obtain ⟨k1, k2, k3⟩ := key
  have ndP := (List.nodup_cons.1 nd).2.sublist k1
  have inP : ∀ b ∈ ((c2.re z.b p).plug (o.re z.b p)).bls, b ∈ D := fun b hb => by
    obtain ⟨e, he, rfl⟩ := List.mem_map.1 (k1.subset hb)
    exact lk.hD e he
  have soP := soL.sublist k3
  generalize (c2.re z.b p).plug (o.re z.b p) = P at R rb2 k1 k2 k3 ndP inP soP
  have eR := R.blk
  rw [eR] at R
  refine D5 (o' := P.blk) h' lk.hdm eR (fun r hr => inP r (blk_mem hr)) fun w'' h'' => ?_
  cases P with
  | lf => exact hfin w'' D s2 .lf z.x h'' inP R rfl rb2 ndP soP hzi k2
  | nd l n r =>
    have hnn : Hd (s2 n.b) n := R.2 n (by simp [CT.nds])
    have pl0 : Plc s2 dm ((CT.nd l n r).nds.map bx) .top (.nd l n r) := ⟨eR, R, rfl⟩
    have lk0 : Lok D dm ((CT.nd l n r).nds.map bx) := by
      refine ⟨lk.hdm, fun e he => ?_, ?_, ?_⟩
      · obtain ⟨q, hq, rfl⟩ := List.mem_map.1 he
        exact inP q.b (List.mem_map.2 ⟨q, hq, rfl⟩)
      · rw [List.map_map]
        refine List.nodup_cons.2 ⟨fun hm => (List.nodup_cons.1 nd).1 (k1.subset hm), ndP⟩
      · rw [List.map_map]; exact soP
    rw [nd_mk] at pl0
    have pl1 := pl0.rdr (v := false) lk0
    have e1 : (CT.mk 0 l (rc n false) r).xs = (CT.nd l n r).xs := xs_root rfl
    have e2 : (CT.mk 0 l (rc n false) r).bls = (CT.nd l n r).bls := by unfold CT.bls; simp [CT.mk, CT.nds, rc]
    refine hfin w'' D (rd s2 n.b false) (CT.mk 0 l (rc n false) r) z.x h'' (by rw [e2]; exact inP) pl1.rt rfl ?_ (by rw [e2]; exact ndP) (by rw [e1]; exact soP) hzi (by rw [e1]; exact k2)
    obtain ⟨N, hN⟩ := rb2
    cases hr : n.red with
    | false => exact ⟨N, (rb_root (n := n) (n' := rc n false) (by rw [hr]; rfl)).2 hN⟩
    | true =>
      rw [nd_mk, CT.mk_RB_red hr] at hN
      exact ⟨N + 1, by rw [CT.mk_RB_black rfl]; exact ⟨N, rfl, hN.1, hN.2.1⟩⟩
/-- The loop of delete. -/
def DL (w0 : World) (tb : Nat) (D0 : List Nat) (m num : Nat) (iv : Spn) (L : List Spn) (N : Nat) (tree : Option Addr) (dmA : Addr) (found pa : Option Addr) (id dir : Int) (node : Option Addr) (lo : Int) (w : World) : Prop :=
  ∃ D s o0 dm Lb c t, tree = ta tb ∧ dmA = ⟨dm, 0, none⟩ ∧ id = ((iv.id : Nat) : Int) ∧ dir = ((c.dir : Nat) : Int) ∧ node = some ⟨c.blk dm, 0, none⟩ ∧ lo = iv.lo ∧ N = t.nds.length ∧ WS w0 w tb D0 D s o0 m num iv ∧ DS D dm iv L s Lb c t found pa
theorem del_loop {t : CT} (hlo : ∀ z ∈ L, z.id = iv.id → z.lo = iv.lo) (h : WS w0 w tb D0 D s o0 m num iv) (ds : DS D dm iv L s Lb c t found pa) (hn1 : 1 ≤ num) (hn2 : num < 1000000000) (hfin : FinD w0 tb D0 m num iv L k) :
    Loop [.ptr, .addr, .ptr, .ptr, (.int .u64), (.int .i64), .ptr, (.int .i64)] (F41_L1 k) (ta tb) ⟨dm, 0, none⟩ found pa ((iv.id : Nat) : Int) ((c.dir : Nat) : Int) (some ⟨c.blk dm, 0, none⟩) iv.lo w := by
  refine F41_L1_rule (I := fun tree dmA found pa id dir node lo w => ∃ N, DL w0 tb D0 m num iv L N tree dmA found pa id dir node lo w)
    (μ := fun tree dmA found pa id dir node lo w => lst fun N => DL w0 tb D0 m num iv L N tree dmA found pa id dir node lo w) ?_ ⟨_, D, s, o0, dm, Lb, c, t, rfl, rfl, rfl, rfl, rfl, rfl, rfl, h, ds⟩
  intro tree dmA found pa id dir node lo w hI
  obtain ⟨h0, hmin⟩ := lst_spec hI
  generalize hN0 : (lst fun N => DL w0 tb D0 m num iv L N tree dmA found pa id dir node lo w) = N0 at *
  obtain ⟨D, s, o0, dm, Lb, c, t, rfl, rfl, rfl, rfl, rfl, rfl, rfl, h, ds⟩ := h0
  cases t with
  | lf =>
    cases c with
    | top => exact absurd rfl (ds.top rfl).1
    | fr c2 d p o => exact del_fin hlo h ds hn1 hn2 hfin
  | nd l n r =>
    refine del_step hlo h ds fun w' s' c' X found' pa' hlt hne h' ds' => ?_
    have hA : DL w0 tb D0 m num iv L X.nds.length (ta tb) ⟨dm, 0, none⟩ found' pa' ((iv.id : Nat) : Int) ((c'.dir : Nat) : Int) (some ⟨c'.blk dm, 0, none⟩) iv.lo w' := ⟨D, s', o0, dm, Lb, c', X, rfl, rfl, rfl, rfl, rfl, rfl, rfl, h', ds'⟩
    exact ⟨⟨_, hA⟩, Nat.lt_of_le_of_lt ((lst_spec ⟨_, hA⟩).2 _ hA) hlt⟩
end
section
variable {w : World} {tb : Nat} {D : List Nat} {s : St} {m : Nat} {iv : Spn} {k : Value → W} {T : CT}
/-- delete, of an interval that is there. -/
theorem F41_spec (h : AT w tb m D s T) (sp : SpOk w iv) (hz : ∃ z ∈ T.xs, z.id = iv.id) (hlo : ∀ z ∈ T.xs, z.id = iv.id → z.lo = iv.lo) (hn : T.nds.length < 1000000)
    (hk : ∀ w' D' s' T' z, AT w' tb m D' s' T' → SpOk w' iv → z.id = iv.id → T.xs.Perm (z :: T'.xs) → Fr (fun b => b = tb ∨ b ∈ D) w w' → (∀ b ∈ D', b ∈ D ∨ w.heap.size ≤ b) → k (.tuple #[]) w') : F41 k (ta tb) iv.v w := by
  have hfin : FinD w tb D m T.nds.length iv T.xs k := fun w' D' s' T' z ws hD rt rd rb nd so hzi pm => by
    refine hk w' D' s' T' z ⟨ws.ms, ?_, hD, rt, rd, rb, nd, so⟩ ws.sp hzi pm ws.fr ws.dd
    have : T.nds.length = T'.nds.length + 1 := by
      have := pm.length_eq
      rw [List.length_cons, xs_len, xs_len] at this
      exact this
    have e : T'.nds.length = T.nds.length - 1 := by omega
    rw [e]; exact ws.tr
  unfold F41
  simp only [NN_mk, add_mk, Nat.zero_add]
  refine load_ptr (i := 0) h.tr rfl ?_
  cases hT : T with
  | lf =>
    obtain ⟨z, hz, -⟩ := hz
    rw [hT] at hz
    cases hz
  | nd l n r =>
    rw [← hT]
    have hb : T.blk = some n.b := by rw [hT]; rfl
    have hlen : 1 ≤ T.nds.length := by rw [hT]; simp [CT.nds]; omega
    rw [hb, show (oA (some n.b)).isNone = false from rfl, BIf_false]
    have dc := dummy_copy (w' := w) (o := T.blk) (num := T.nds.length) h.tr h.ms sp (K := fun n13 =>
      NextT Go.Proofs.Try.prog (callMethod iv.v "ID" [].toArray) (.s (.one (.int .u64))) fun x14 =>
      NextT Go.Proofs.Try.prog (callMethod iv.v "LowAtDimension" [.int .u64 1].toArray) (.s (.one (.int .i64))) fun x15 =>
      Drw <|
      NN (ta tb) fun a16 =>
      LoadT .ptr a16 fun p17 =>
      Req (0 ≤ (1 : Int) ∧ (1 : Int) < (2 : Int)) <|
      Store1 ((⟨n13, 3, none⟩ : Addr).add ((1 : Int).toNat)) (.pointer p17) <|
      Loop [.ptr, .addr, .ptr, .ptr, (.int .u64), (.int .i64), .ptr, (.int .i64)] (F41_L1 k) (ta tb) ⟨n13, 0, none⟩ none none x14 1 (some ⟨n13, 0, none⟩) x15) ?_
    · simp only [NN_mk, add_mk, Nat.zero_add] at dc
      exact dc
    intro w1 dm nD sz h1
    simp only [NN_mk, add_mk, Nat.zero_add]
    refine id_intro fun w2 f2 => ?_
    have h2 := h1.fr0 f2
    rw [show (1 : Int) = ((1 : Nat) : Int) from rfl]
    refine lo_intro h2.sp (by decide) fun w4 f4 => drw_intro fun w5 f5 z5 => ?_
    have h5 := (h2.fr0 f4).fr0 f5
    refine load_ptr (i := 0) h5.tr rfl (Req_iff.2 ⟨by decide, ?_⟩)
    have dmD : dm ∈ dm :: D := List.mem_cons_self
    show Store1 ⟨dm, 3 + 1, none⟩ (.pointer (oA T.blk)) _ w5
    refine st_ch (d := 1) h5.ms dmD (by decide) fun w6 m6 f6 z6 => ?_
    have h6 := h5.one dmD m6 f6
    rw [up_same, up_up] at h6
    have rt' : RepT (up s dm (setC ⟨none, 0, 0, none, none, false⟩ 1 T.blk)) T.blk T := h.rt.frame fun b hb => up_ne fun e => nD (e ▸ h.hD b hb)
    obtain ⟨K, hK⟩ := h.rb
    refine del_loop (D := dm :: D) (s := up s dm (setC ⟨none, 0, 0, none, none, false⟩ 1 T.blk)) (o0 := T.blk) (dm := dm) (Lb := T.nds.map bx) (c := .top) (t := T) (L := T.xs) hlo h6 ⟨⟨dmD, fun e he => ?_, ?_, ?_⟩, ⟨?_, rt', rfl⟩, fun n hn => (by cases hn), fun n hn => (by cases hn), ⟨K, hK, trivial⟩, trivial, ?_, ?_, rfl, fun _ => ⟨by rw [hb]; simp, ?_⟩⟩ hlen (by omega) hfin
    · obtain ⟨q, hq, rfl⟩ := List.mem_map.1 he
      exact List.mem_cons_of_mem _ (h.hD q.b (List.mem_map.2 ⟨q, hq, rfl⟩))
    · rw [List.map_map]
      refine List.nodup_cons.2 ⟨fun hm => nD (h.hD dm hm), h.nd⟩
    · rw [List.map_map]; exact h.so
    · show (up s dm _ dm).c1 = _; rw [up_same]; rfl
    · rw [List.map_map]; rfl
    · obtain ⟨z, hz, hzi⟩ := hz
      obtain ⟨q, hq, rfl⟩ := List.mem_map.1 hz
      exact .inl ⟨rfl, q, hq, hzi⟩
    · rw [up_same]; rfl
end
end Go.Proofs.Ythapmkjmfkmnoaa.E
