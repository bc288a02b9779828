/-
  Interval trees: a round of delete.
-/
import Derived.Test.YthapmkjmfkmnoaaAtN
namespace Go.Proofs.Ythapmkjmfkmnoaa.E
open Go
set_option linter.unusedSimpArgs false
set_option linter.unusedVariables false
set_option maxRecDepth 100000
set_option maxHeartbeats 8000000

section
variable {w0 w : World} {tb : Nat} {D0 D : List Nat} {s : St} {o0 : Option Nat} {m num : Nat} {iv : Spn} {k : Value → W} {dm d sd : Nat} {Lb : List (Nat × Spn)} {c : Cx} {L : List Spn} {found pa : Option Addr}
  {ag : Option Addr → Addr → Option Addr → Option Addr → Int → Int → Option Addr → Int → W}
/-- Two paths with the same nodes to the sides. -/
def SameP (c c' : Cx) : Prop := c'.pre.map bx = c.pre.map bx ∧ c'.post.map bx = c.post.map bx
theorem SameP.pre {c c' : Cx} (h : SameP c c') {P : Spn → Prop} (hp : ∀ q ∈ c.pre, P q.x) : ∀ q ∈ c'.pre, P q.x := fun q hq => by
  have : bx q ∈ c.pre.map bx := by rw [← h.1]; exact List.mem_map.2 ⟨q, hq, rfl⟩
  obtain ⟨q', h1, h2⟩ := List.mem_map.1 this
  injection h2 with _ e
  rw [← e]; exact hp q' h1
theorem SameP.post {c c' : Cx} (h : SameP c c') {P : Spn → Prop} (hp : ∀ q ∈ c.post, P q.x) : ∀ q ∈ c'.post, P q.x := fun q hq => by
  have : bx q ∈ c.post.map bx := by rw [← h.2]; exact List.mem_map.2 ⟨q, hq, rfl⟩
  obtain ⟨q', h1, h2⟩ := List.mem_map.1 this
  injection h2 with _ e
  rw [← e]; exact hp q' h1
theorem FOk.tr {c c' : Cx} {t : CT} (h : FOk iv found c t) (hf : ∀ z ∈ c.frs, ∃ z' ∈ c'.frs, bx z' = bx z) : FOk iv found c' t := by
  rcases h with h | ⟨z, h1, h2, h3⟩
  · exact .inl h
  · obtain ⟨z', g1, g2⟩ := hf z h1
    injection g2 with e1 e2
    exact .inr ⟨z', g1, by rw [e1]; exact h2, by rw [e2]; exact h3⟩
theorem sp_ii {n n' y y' : Nd} {Y1 Y2 : CT} (hs : sd < 2) (e1 : bx n' = bx n) (e2 : bx y' = bx y) : SameP (.fr c sd n (CT.mk sd Y1 y Y2)) (.fr (.fr c sd y' Y2) sd n' Y1) := by
  have : sd = 0 ∨ sd = 1 := by omega
  rcases this with rfl | rfl <;> simp [SameP, Cx.pre, Cx.post, CT.mk, CT.nds, e1, e2]
theorem sp_a {n n' p p' : Nd} {o o' Y : CT} (hs : sd < 2) (hd : d < 2) (e1 : bx n' = bx n) (e2 : bx p' = bx p) (e3 : o'.nds.map bx = o.nds.map bx) : SameP (.fr (.fr c d p o) sd n Y) (.fr (.fr c d p' o') sd n' Y) := by
  have h1 : sd = 0 ∨ sd = 1 := by omega
  have h2 : d = 0 ∨ d = 1 := by omega
  rcases h1 with rfl | rfl <;> rcases h2 with rfl | rfl <;> simp [SameP, Cx.pre, Cx.post, CT.mk, CT.nds, e1, e2, e3]
theorem sp_b {n n' p p' q q' e e' : Nd} {e1 e2 F Y : CT} (hs : sd < 2) (hd : d < 2) (h1 : bx n' = bx n) (h2 : bx p' = bx p) (h3 : bx q' = bx q) (h4 : bx e' = bx e) : SameP (.fr (.fr c d p (CT.mk d (CT.mk d e1 e e2) q F)) sd n Y) (.fr (.fr (.fr c d e' (CT.mk d e2 q' F)) d p' e1) sd n' Y) := by
  have g1 : sd = 0 ∨ sd = 1 := by omega
  have g2 : d = 0 ∨ d = 1 := by omega
  rcases g1 with rfl | rfl <;> rcases g2 with rfl | rfl <;> simp [SameP, Cx.pre, Cx.post, CT.mk, CT.nds, h1, h2, h3, h4]
theorem sp_c {n n' p p' q q' : Nd} {E F F' Y : CT} (hs : sd < 2) (hd : d < 2) (h1 : bx n' = bx n) (h2 : bx p' = bx p) (h3 : bx q' = bx q) (h4 : F'.nds.map bx = F.nds.map bx) : SameP (.fr (.fr c d p (CT.mk d E q F)) sd n Y) (.fr (.fr (.fr c d q' F') d p' E) sd n' Y) := by
  have g1 : sd = 0 ∨ sd = 1 := by omega
  have g2 : d = 0 ∨ d = 1 := by omega
  rcases g1 with rfl | rfl <;> rcases g2 with rfl | rfl <;> simp [SameP, Cx.pre, Cx.post, CT.mk, CT.nds, h1, h2, h3, h4]
theorem kidsD {x y : CT} {n : Nd} (pl : Plc s dm Lb c (CT.mk sd x n y)) (lk : Lok D dm Lb) (hs : sd < 2) : n.b ∈ D ∧ (s n.b).x = some n.x ∧ ch (s n.b) sd = x.blk ∧ ch (s n.b) (1 - sd) = y.blk ∧ (s n.b).red = n.red ∧ isRed s x.blk = x.red ∧ isRed s y.blk = y.red ∧ (∀ a, x.blk = some a → a ∈ D) ∧ ∀ a, y.blk = some a → a ∈ D := by
  have rt := pl.rt
  rw [CT.mk_blk] at rt
  obtain ⟨-, hh, hx, hy⟩ := (RepT.mk_iff hs).1 rt
  refine ⟨pl.inD lk _ (.inl (mk_mem.2 (.inl rfl))), hh.1, hx.blk, hy.blk, hh.2.2.2, by rw [← hx.blk]; exact hx.red, by rw [← hy.blk]; exact hy.red, fun a ha => pl.inD lk _ (.inl (mk_mem.2 (.inr (.inl (blk_mem ha))))), fun a ha => pl.inD lk _ (.inl (mk_mem.2 (.inr (.inr (blk_mem ha)))))⟩
theorem bx_rc (n : Nd) (v : Bool) : bx (rc n v) = bx n := rfl
/-- A round of delete. -/
theorem del_step {l r : CT} {n : Nd} (hlo : ∀ z ∈ L, z.id = iv.id → z.lo = iv.lo) (h : WS w0 w tb D0 D s o0 m num iv) (ds : DS D dm iv L s Lb c (.nd l n r) found pa)
    (hag : ∀ w' s' c' X found' pa', X.nds.length < (CT.nd l n r).nds.length → c' ≠ .top → WS w0 w' tb D0 D s' o0 m num iv → DS D dm iv L s' Lb c' X found' pa' → ag (ta tb) ⟨dm, 0, none⟩ found' pa' ((iv.id : Nat) : Int) ((c'.dir : Nat) : Int) (some ⟨c'.blk dm, 0, none⟩) iv.lo w') :
    F41_L1 k ag (ta tb) ⟨dm, 0, none⟩ found pa ((iv.id : Nat) : Int) ((c.dir : Nat) : Int) (some ⟨c.blk dm, 0, none⟩) iv.lo w := by
  obtain ⟨lk, pl, pre, post, ⟨K, rb, crb⟩, col, eL, fo, epa, htop⟩ := ds
  obtain ⟨sd, hsd⟩ : ∃ sd, cmpS n.x.lo iv.lo n.x.id iv.id = sd := ⟨_, rfl⟩
  have hs2 : sd < 2 := by rw [← hsd]; exact cmp_two _ _
  obtain ⟨X, Y, eT, -⟩ := nd_side l r n hs2
  rw [eT] at pl rb fo
  have len : (CT.nd l n r).nds.length = X.nds.length + 1 + Y.nds.length := by rw [eT]; exact mk_len
  have tred : (CT.nd l n r).red = n.red := rfl
  rw [tred] at crb
  have hloB : ∀ z ∈ Lb.map Prod.snd, z.id = iv.id → z.lo = iv.lo := by rw [eL]; exact hlo
  obtain ⟨nD, nx, cX, cY, nred, rX, rY, xD, yD⟩ := kidsD pl lk hs2
  have pl1 := pl.down hs2
  obtain ⟨pre1, post1⟩ := down_ord' pl lk hsd pre post
  have fo1 := down_fo pl lk hsd hloB fo
  have cD : ∀ b ∈ c.bls, b ∈ D := fun b hb => pl.inD lk b (.inr hb)
  have cbD : c.blk dm ∈ D := blk_memD (w := w) (w0 := w0) c lk.hdm cD
  have hch := pl.cx.ch
  rw [CT.mk_blk] at hch
  generalize hf : (if n.x.id = iv.id then some ⟨n.b, 0, none⟩ else found) = found' at fo1
  refine L_head (x := n.x) h cbD nD pl.cx.dir hch nx hsd fun w1 h1 => ?_
  rw [hf]
  refine D1 h1 nD hs2 (by rw [cX]; exact xD) ?_
  rw [cX, rX, nred]
  -- nothing to do
  have plain : Col (.fr c sd n Y) X → ∀ w', WS w0 w' tb D0 D s o0 m num iv → ag (ta tb) ⟨dm, 0, none⟩ found' (some ⟨c.blk dm, 0, none⟩) ((iv.id : Nat) : Int) ((sd : Nat) : Int) (some ⟨n.b, 0, none⟩) iv.lo w' := fun hc w' h' =>
    hag w' s (.fr c sd n Y) X found' _ (by omega) (by simp) h' ⟨lk, pl1, pre1, post1, rb_kid rb crb, hc, eL, fo1, rfl, fun e => (by cases e)⟩
  cases hn : n.red with
  | true => exact D2f (plain (.inl hn) w1 h1)
  | false =>
  cases hX : X.red with
  | true => exact D2f (plain (.inr (.inl hX)) w1 h1)
  | false =>
  rw [show ((!false) && (!false)) = true from rfl]
  rw [CT.mk_RB_black hn] at rb
  obtain ⟨k0, rfl, rbX, rbY⟩ := rb
  cases hY : Y.red with
  | true =>
    -- the other child comes up
    obtain ⟨yb, hyb⟩ := CT.red_some hY
    obtain ⟨Y1, y, Y2, rfl, rfl⟩ := CT.sides hyb sd
    rw [CT.mk_red] at hY
    refine D2a (r := y.b) (Q := Q1 dm c sd X Y1 Y2 n y) h1 nD cbD hs2 pl.cx.dir (by rw [cY]; exact yD) (by rw [cY, rY, CT.mk_red]; exact hY) (fun w2 K h2 hK => rot1_do h2 lk pl hs2 hK) fun w3 s2 ⟨n', y', q1, q2, _, q3, q4, q5, q6, q7, q8⟩ h3 => ?_
    have pl3 := plc_set pl lk q1 q2 (rot_bx hs2 q3 q4 q6 q7) (by rw [CT.mk_blk, q6])
    have pl4 := (pl3.down hs2).down hs2
    rw [CT.mk_RB_red hY] at rbY
    have sp := sp_ii (c := c) (Y1 := Y1) (Y2 := Y2) hs2 (bx_of q3 q4) (bx_of q6 q7)
    have := hag w3 _ (.fr (.fr c sd y' Y2) sd n' Y1) X found' (some ⟨y.b, 0, none⟩) (by omega) (by simp) h3 ⟨lk, pl4, sp.pre (P := fun x => klt x iv) pre1, sp.post (P := fun x => ¬ klt x iv) post1, ⟨k0, rbX, rbY.1, fun _ => ⟨hX, rbY.2.2.1⟩, ?_⟩, .inl q5, eL, fo1.tr fun z hz => ?_, by rw [← q6]; rfl, fun e => (by cases e)⟩
    · rw [show (Cx.fr (.fr c sd y' Y2) sd n' Y1).blk dm = n.b from q3] at this
      exact this
    · rw [q5, if_pos rfl]
      refine ⟨rbY.2.1, fun e => by rw [q8] at e; (cases e), ?_⟩
      rw [q8, if_neg (by decide), ← hn]; exact crb
    · rcases List.mem_cons.1 hz with rfl | hz
      · exact ⟨n', List.mem_cons_self, bx_of q3 q4⟩
      · exact ⟨z, List.mem_cons_of_mem _ (List.mem_cons_of_mem _ hz), rfl⟩
  | false =>
  cases c with
  | top =>
    obtain ⟨-, h0⟩ := htop rfl
    exact D2n (last := 1) h1 nD lk.hdm hs2 (by decide) (by rw [cY]; exact yD) (by rw [cY, rY]; exact hY) h0 (plain (.inr (.inr ⟨rfl, hY⟩)) w1 h1)
  | fr c2 d p o =>
    obtain ⟨crb1, crb2, crb3⟩ := crb
    have hd : d < 2 := pl.cx.dir
    have ored : o.red = false := by
      cases hp : p.red with
      | true => exact (crb2 hp).2
      | false =>
        rcases col with e | e | e
        · rw [hp] at e; cases e
        · rw [tred, hn] at e; cases e
        · exact e.2
    have c2rb : ∀ rdv, (p.red = true ∨ rdv = false) → c2.RB rdv (k0 + 1) := fun rdv hv => by
      cases hp : p.red with
      | true =>
        rw [hp, if_pos rfl] at crb3
        cases rdv with
        | true => exact crb3
        | false => exact crb3.black
      | false =>
        rcases col with e | e | e
        · rw [hp] at e; cases e
        · rw [tred, hn] at e; cases e
        · rw [e.1]; trivial
    have c2rb' : c2.RB true (k0 + 1) := by
      cases hp : p.red with
      | true => exact c2rb true (.inl hp)
      | false =>
        rcases col with e | e | e
        · rw [hp] at e; cases e
        · rw [tred, hn] at e; cases e
        · rw [e.1]; trivial
    -- the other tree is there
    cases ho : o with
    | lf =>
      rw [ho] at crb1
      have : k0 + 1 = 0 := crb1
      omega
    | nd ol q' or' =>
    obtain ⟨qb, hqb⟩ : ∃ qb, o.blk = some qb := ⟨q'.b, by rw [ho]; rfl⟩
    rw [← ho]
    clear ho
    obtain ⟨E, q, F, rfl, rfl⟩ := CT.sides hqb d
    rw [CT.mk_red] at ored
    rw [CT.mk_RB_black ored] at crb1
    obtain ⟨k1, ek, rbE, rbF⟩ := crb1
    obtain rfl : k0 = k1 := by omega
    have plP := pl.up
    have plO : Plc s dm Lb (.fr c2 (1 - d) p (CT.mk sd X n Y)) (CT.mk d E q F) := Plc.down (by rw [CT.mk_flip hd]; exact plP) (by omega)
    obtain ⟨qD, -, cE, cF, -, rE, rF, eD, fD⟩ := kidsD plO lk hd
    obtain ⟨pD, -, -, cO, -, -, -, -, -⟩ := kidsD plP lk hd
    have kt : ∀ d' a, d' < 2 → ch (s q.b) d' = some a → a ∈ D := fun d' a hd' ha => by
      by_cases e : d' = d
      · rw [e, cE] at ha; exact eD a ha
      · rw [show d' = 1 - d by omega, cF] at ha; exact fD a ha
    have epa : pa = some ⟨c2.blk dm, 0, none⟩ := epa
    refine D2t (last := d) (tt := q.b) h1 nD pD qD hs2 hd (by rw [cY]; exact yD) (by rw [cY, rY]; exact hY) (by show ch (s p.b) (1 - d) = some q.b; rw [cO, CT.mk_blk]) kt ?_
    rw [cE, cF, rE, rF]
    have c2D : ∀ b ∈ c2.bls, b ∈ D := fun b hb => cD b (by rw [fr_bls]; exact List.mem_cons_of_mem _ (List.mem_append_right _ hb))
    have gD : c2.blk dm ∈ D := blk_memD (w := w) (w0 := w0) c2 lk.hdm c2D
    obtain ⟨-, nC2, nX2⟩ := sp_nodup (plP.nodup lk)
    have pn2 : p.b ∉ c2.bls := (nX2 p.b (mk_mem.2 (.inl rfl))).1
    have cy : CxR s dm c2 (some p.b) := by have := plP.cx; rw [CT.mk_blk] at this; exact this
    have hloc := cy.loc pn2
    have kg := cy.kids c2D fun a e => by cases e; exact pD
    -- what is common to both rotations
    by_cases hEF : F.red = false ∧ E.red = false
    · -- colours alone
      rw [hEF.1, hEF.2]
      refine D3t h1 nD pD qD fun w' h' => ?_
      have a1 := plP.rdr (v := false) lk
      have a2 := (a1.down hd).rdr (v := true) lk
      have a3 := a2.up
      rw [← CT.mk_flip hd] at a3
      have a4 := ((a3.down (by omega)).rdr (v := true) lk).up
      rw [CT.mk_flip hd] at a4
      have a5 := (a4.down hd).down hs2
      have sp := sp_a (c := c2) (Y := Y) (n := n) (n' := rc n true) (p := p) (p' := rc p false) (o := CT.mk d E q F) (o' := CT.mk d E (rc q true) F) hs2 hd rfl rfl (by rw [mk_map, mk_map]; rfl)
      exact hag w' _ (.fr (.fr c2 d (rc p false) (CT.mk d E (rc q true) F)) sd (rc n true) Y) X found' (some ⟨p.b, 0, none⟩) (by omega) (by simp) h' ⟨lk, a5, sp.pre (P := fun x => klt x iv) pre1, sp.post (P := fun x => ¬ klt x iv) post1,
        ⟨k0, rbX, rbY, fun _ => ⟨hX, hY⟩, by
          show Cx.RB _ true k0
          refine ⟨(CT.mk_RB_red rfl).2 ⟨rbE, rbF, hEF.2, hEF.1⟩, fun e => (by cases e), ?_⟩
          exact c2rb false (.inr rfl)⟩, .inl rfl, eL, fo1.tr fun z hz => (by
          rcases List.mem_cons.1 hz with rfl | hz
          · exact ⟨rc z true, List.mem_cons_self, rfl⟩
          · rcases List.mem_cons.1 hz with rfl | hz
            · exact ⟨rc z false, List.mem_cons_of_mem _ List.mem_cons_self, rfl⟩
            · exact ⟨z, List.mem_cons_of_mem _ (List.mem_cons_of_mem _ hz), rfl⟩), rfl, fun e => (by cases e)⟩
    · have hv : ((!F.red) && (!E.red)) = false := by
        cases h1 : F.red <;> cases h2 : E.red <;> simp_all
      rw [hv, epa]
      cases hE : E.red with
      | true =>
        -- a double one
        obtain ⟨eb, heb⟩ := CT.red_some hE
        obtain ⟨e1, e, e2, rfl, rfl⟩ := CT.sides heb d
        rw [CT.mk_red] at hE
        rw [CT.mk_RB_red hE] at rbE
        obtain ⟨rb1, rb2, rd1, rd2⟩ := rbE
        refine D3r (r := e.b) (ld := c2.dir) (dbl := true) (Q := Q2 dm c2 d (CT.mk sd X n Y) e1 e2 F p q e) h1 gD pD qD hd kg kt hloc (by rw [cE, rE, CT.mk_red]; exact hE) (fun e => (by cases e)) (fun w2 K h2 hK => ?_) fun w3 s2 ⟨p', q', e', q1, q2, q3, q4, q5, q6, q7, q8, q9, q10, q11⟩ h3 => ?_
        · rw [if_pos rfl]
          exact rot2_do h2 lk plP hd hK
        · have pl3 := plc_set plP lk q1 q2 (rot2_bx hd q3 q4 q6 q7 q9 q10) (by rw [CT.mk_blk, q9])
          generalize (up s2 (c2.blk dm) (setC (s2 (c2.blk dm)) c2.dir (some e.b))) = s3 at pl3 h3
          have nP : p'.b ≠ q'.b := by
            obtain ⟨nT3, -, -⟩ := sp_nodup (pl3.nodup lk)
            have := (CT.mk_bls _ _ _ _).nodup_iff.1 nT3
            exact fun e => (List.nodup_append.1 (List.nodup_cons.1 this).2).2.2 p'.b (mk_mem.2 (.inl rfl)) q'.b (mk_mem.2 (.inl rfl)) e
          obtain ⟨eD3, -, cc1, cc2, -⟩ := kidsD pl3 lk hd
          rw [CT.mk_blk] at cc1 cc2
          have hc2 := pl3.cx.ch
          rw [CT.mk_blk] at hc2
          -- the colours
          have b1 := (((pl3.down hd).down hd).rdr (v := true) lk).up.up
          have b2 := b1.rdr (v := true) lk
          have b3 := ((b2.down hd).rdr (v := false) lk).up
          rw [← CT.mk_flip hd] at b3
          have b4 := ((b3.down (by omega)).rdr (v := false) lk).up
          rw [CT.mk_flip hd] at b4
          have b5 := ((b4.down hd).down hd).down hs2
          have two : ∀ s', Plc s' dm Lb (.fr (.fr (.fr c2 d (rc e' true) (CT.mk d e2 (rc q' false) F)) d (rc p' false) e1) sd (rc n true) Y) X → ∀ w', WS w0 w' tb D0 D s' o0 m num iv → ag (ta tb) ⟨dm, 0, none⟩ found' (some ⟨p.b, 0, none⟩) ((iv.id : Nat) : Int) ((sd : Nat) : Int) (some ⟨n.b, 0, none⟩) iv.lo w' := fun s' pl5 w' h' => by
            have sp := sp_b (c := c2) (Y := Y) (n := n) (n' := rc n true) (p := p) (p' := rc p' false) (q := q) (q' := rc q' false) (e := e) (e' := rc e' true) (e1 := e1) (e2 := e2) (F := F) hs2 hd rfl (bx_of q3 q4) (bx_of q6 q7) (bx_of q9 q10)
            refine hag w' s' (.fr (.fr (.fr c2 d (rc e' true) (CT.mk d e2 (rc q' false) F)) d (rc p' false) e1) sd (rc n true) Y) X found' (some ⟨p.b, 0, none⟩) (by omega) (by simp) h' ⟨lk, pl5, sp.pre (P := fun x => klt x iv) pre1, sp.post (P := fun x => ¬ klt x iv) post1, ⟨k0, rbX, rbY, fun _ => ⟨hX, hY⟩, ?_⟩, .inl rfl, eL, fo1.tr fun z hz => ?_, by rw [← q3]; rfl, fun e => (by cases e)⟩
            · show Cx.RB _ true k0
              refine ⟨rb1, fun e => (by cases e), ?_⟩
              show Cx.RB (.fr c2 d (rc e' true) _) false (k0 + 1)
              exact ⟨(CT.mk_RB_black rfl).2 ⟨k0, rfl, rb2, rbF⟩, fun _ => ⟨rfl, by rw [CT.mk_red]; rfl⟩, c2rb'⟩
            · rcases List.mem_cons.1 hz with rfl | hz
              · exact ⟨rc z true, List.mem_cons_self, rfl⟩
              · rcases List.mem_cons.1 hz with rfl | hz
                · exact ⟨rc p' false, List.mem_cons_of_mem _ List.mem_cons_self, bx_of q3 q4⟩
                · exact ⟨z, List.mem_cons_of_mem _ (List.mem_cons_of_mem _ (List.mem_cons_of_mem _ hz)), rfl⟩
          have hp3 : p'.b ∈ D := pl3.inD lk _ (.inl (mk_mem.2 (.inr (.inl (mk_mem.2 (.inl rfl))))))
          have hq3 : q'.b ∈ D := pl3.inD lk _ (.inl (mk_mem.2 (.inr (.inr (mk_mem.2 (.inl rfl))))))
          rw [q9] at cc1 cc2 eD3 hc2
          have two01 : d = 0 ∨ d = 1 := by omega
          rcases two01 with h0 | h0
          · rw [h0] at cc1 cc2
            refine D4 (r := e.b) (c0 := p'.b) (c1 := q'.b) h3 nD gD eD3 hp3 hq3 pl3.cx.dir hc2 cc1 cc2 fun w' h' => two _ b5 w' ?_
            rw [q9]; exact h'
          · rw [h0] at cc1 cc2
            refine D4 (r := e.b) (c0 := q'.b) (c1 := p'.b) h3 nD gD eD3 hq3 hp3 pl3.cx.dir hc2 cc2 cc1 fun w' h' => two _ b5 w' ?_
            rw [rd_comm nP, q9]; exact h'
      | false =>
        -- a single one
        have hF : F.red = true := by
          cases hF : F.red with
          | true => rfl
          | false => exact absurd ⟨hF, hE⟩ hEF
        obtain ⟨fb, hfb⟩ := CT.red_some hF
        obtain ⟨f1, f, f2, rfl, rfl⟩ := CT.sides hfb d
        rw [CT.mk_red] at hF
        rw [CT.mk_RB_red hF] at rbF
        obtain ⟨rb1, rb2, rd1, rd2⟩ := rbF
        refine D3r (r := q.b) (ld := c2.dir) (dbl := false) (Q := Q1 dm c2 d (CT.mk sd X n Y) E (CT.mk d f1 f f2) p q) h1 gD pD qD hd kg kt hloc (by rw [cE, rE]; exact hE) (fun _ => by rw [cF, rF, CT.mk_red]; exact hF) (fun w2 K h2 hK => ?_) fun w3 s2 ⟨p', q', q1, q2, _, q3, q4, q5, q6, q7, q8⟩ h3 => ?_
        · rw [if_neg (by decide)]
          exact rot1_do h2 lk plP hd hK
        · have pl3 := plc_set plP lk q1 q2 (rot_bx hd q3 q4 q6 q7) (by rw [CT.mk_blk, q6])
          generalize (up s2 (c2.blk dm) (setC (s2 (c2.blk dm)) c2.dir (some q.b))) = s3 at pl3 h3
          have nP : p'.b ≠ f.b := by
            obtain ⟨nT3, -, -⟩ := sp_nodup (pl3.nodup lk)
            have := (CT.mk_bls _ _ _ _).nodup_iff.1 nT3
            exact fun e => (List.nodup_append.1 (List.nodup_cons.1 this).2).2.2 p'.b (mk_mem.2 (.inl rfl)) f.b (mk_mem.2 (.inl rfl)) e
          obtain ⟨eD3, -, cc1, cc2, -⟩ := kidsD pl3 lk hd
          rw [CT.mk_blk] at cc1 cc2
          have hc2 := pl3.cx.ch
          rw [CT.mk_blk] at hc2
          have b1 := (((pl3.down hd).down hd).rdr (v := true) lk).up.up
          have b2 := b1.rdr (v := true) lk
          have b3 := ((b2.down hd).rdr (v := false) lk).up
          rw [← CT.mk_flip hd] at b3
          have b4 := ((b3.down (by omega)).rdr (v := false) lk).up
          rw [CT.mk_flip hd] at b4
          have b5 := ((b4.down hd).down hd).down hs2
          have two : ∀ s', Plc s' dm Lb (.fr (.fr (.fr c2 d (rc q' true) (CT.mk d f1 (rc f false) f2)) d (rc p' false) E) sd (rc n true) Y) X → ∀ w', WS w0 w' tb D0 D s' o0 m num iv → ag (ta tb) ⟨dm, 0, none⟩ found' (some ⟨p.b, 0, none⟩) ((iv.id : Nat) : Int) ((sd : Nat) : Int) (some ⟨n.b, 0, none⟩) iv.lo w' := fun s' pl5 w' h' => by
            have sp := sp_c (c := c2) (Y := Y) (n := n) (n' := rc n true) (p := p) (p' := rc p' false) (q := q) (q' := rc q' true) (E := E) (F := CT.mk d f1 f f2) (F' := CT.mk d f1 (rc f false) f2) hs2 hd rfl (bx_of q3 q4) (bx_of q6 q7) (by rw [mk_map, mk_map]; rfl)
            refine hag w' s' (.fr (.fr (.fr c2 d (rc q' true) (CT.mk d f1 (rc f false) f2)) d (rc p' false) E) sd (rc n true) Y) X found' (some ⟨p.b, 0, none⟩) (by omega) (by simp) h' ⟨lk, pl5, sp.pre (P := fun x => klt x iv) pre1, sp.post (P := fun x => ¬ klt x iv) post1, ⟨k0, rbX, rbY, fun _ => ⟨hX, hY⟩, ?_⟩, .inl rfl, eL, fo1.tr fun z hz => ?_, by rw [← q3]; rfl, fun e => (by cases e)⟩
            · show Cx.RB _ true k0
              refine ⟨rbE, fun e => (by cases e), ?_⟩
              show Cx.RB (.fr c2 d (rc q' true) _) false (k0 + 1)
              exact ⟨(CT.mk_RB_black rfl).2 ⟨k0, rfl, rb1, rb2⟩, fun _ => ⟨rfl, by rw [CT.mk_red]; rfl⟩, c2rb'⟩
            · rcases List.mem_cons.1 hz with rfl | hz
              · exact ⟨rc z true, List.mem_cons_self, rfl⟩
              · rcases List.mem_cons.1 hz with rfl | hz
                · exact ⟨rc p' false, List.mem_cons_of_mem _ List.mem_cons_self, bx_of q3 q4⟩
                · exact ⟨z, List.mem_cons_of_mem _ (List.mem_cons_of_mem _ (List.mem_cons_of_mem _ hz)), rfl⟩
          have hp3 : p'.b ∈ D := pl3.inD lk _ (.inl (mk_mem.2 (.inr (.inl (mk_mem.2 (.inl rfl))))))
          have hq3 : f.b ∈ D := pl3.inD lk _ (.inl (mk_mem.2 (.inr (.inr (mk_mem.2 (.inl rfl))))))
          rw [q6] at cc1 cc2 eD3 hc2
          have two01 : d = 0 ∨ d = 1 := by omega
          rcases two01 with h0 | h0
          · rw [h0] at cc1 cc2
            refine D4 (r := q.b) (c0 := p'.b) (c1 := f.b) h3 nD gD eD3 hp3 hq3 pl3.cx.dir hc2 cc1 cc2 fun w' h' => two _ b5 w' ?_
            rw [q6]; exact h'
          · rw [h0] at cc1 cc2
            refine D4 (r := q.b) (c0 := f.b) (c1 := p'.b) h3 nD gD eD3 hq3 hp3 pl3.cx.dir hc2 cc2 cc1 fun w' h' => two _ b5 w' ?_
            rw [rd_comm nP, q6]; exact h'
end
end Go.Proofs.Ythapmkjmfkmnoaa.E
