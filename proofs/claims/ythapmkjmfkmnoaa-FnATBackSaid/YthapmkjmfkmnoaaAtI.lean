/-
  Interval trees: the loop of add.
-/
import Derived.Test.YthapmkjmfkmnoaaAtH
namespace Go.Proofs.Ythapmkjmfkmnoaa.E
open Go
set_option linter.unusedSimpArgs false
set_option linter.unusedVariables false
set_option maxRecDepth 100000
set_option maxHeartbeats 8000000

theorem mk_len {d : Nat} {x y : CT} {n : Nd} : (CT.mk d x n y).nds.length = x.nds.length + 1 + y.nds.length := by
  unfold CT.mk; split <;> simp [CT.nds] <;> omega
/-- How the variables of add stand to a place; N grows less. -/
def Gst (dm : Nat) (iv : Spn) (pa gp hp : Option Addr) (dN lN N : Nat) : Cx → CT → Prop
  | .top, t => pa = none ∧ gp = none ∧ hp = some ⟨dm, 0, none⟩ ∧ t.red = false ∧ t.blk ≠ none ∧ N = 3 * t.nds.length
  | .fr c d p o, t => pa = some ⟨p.b, 0, none⟩ ∧ dN = d ∧
      ((VarOk dm gp hp lN c ∧ (p.red = false → t.red = true → o.red = false) ∧ (p.red = true → Bt t ∨ c.Au) ∧ N = 3 * t.nds.length)
      ∨ (gp = some ⟨c.blk dm, 0, none⟩ ∧ Bt t ∧ N = 3 * t.nds.length)
      ∨ (gp ≠ none ∧ p.red = false ∧ ∃ sd x n y, t = CT.mk sd x n y ∧ sd < 2 ∧ n.red = true ∧ cmpS n.x.lo iv.lo n.x.id iv.id = sd ∧ Bt x ∧ N = 3 * x.nds.length + 1))
/-- The loop of add. -/
structure AL0 (w0 : World) (tb : Nat) (D0 : List Nat) (m num : Nat) (iv : Spn) (L : List Spn) (N : Nat) (D : List Nat) (s : St) (o0 : Option Nat) (dm : Nat) (Lb : List (Nat × Spn)) (c : Cx) (t : CT) (dN lN K : Nat) (pa gp hp : Option Addr) (w : World) : Prop where
  ws : WS w0 w tb D0 D s o0 m num iv
  lk : Lok D dm Lb
  pl : Plc s dm Lb c t
  pre : ∀ n ∈ c.pre, klt n.x iv
  post : ∀ n ∈ c.post, klt iv n.x
  ex : ∀ f ∈ c.frs, iv.hi ≤ f.mx ∧ f.mn ≤ iv.lo
  rb : t.RB K
  crb : c.RB t.red K
  bn : BndT t
  cbn : c.Bnd t.xs
  eL : Lb.map Prod.snd = L
  d2 : dN < 2
  l2 : lN < 2
  g : Gst dm iv pa gp hp dN lN N c t
def AL (w0 : World) (tb : Nat) (D0 : List Nat) (m num : Nat) (iv : Spn) (L : List Spn) (N : Nat) (tree : Option Addr) (v : Value) (dmA : Addr) (pa gp node : Option Addr) (dir last ol id mx lo : Int) (hp : Option Addr) (w : World) : Prop :=
  ∃ D s o0 dm Lb c t dN lN K, tree = ta tb ∧ v = iv.v ∧ dmA = ⟨dm, 0, none⟩ ∧ node = oA t.blk ∧ dir = ((dN : Nat) : Int) ∧ last = ((lN : Nat) : Int) ∧ ol = ((1 - lN : Nat) : Int) ∧ id = ((iv.id : Nat) : Int) ∧ mx = iv.hi ∧ lo = iv.lo ∧ AL0 w0 tb D0 m num iv L N D s o0 dm Lb c t dN lN K pa gp hp w
theorem Gst.par {dm : Nat} {iv : Spn} {pa gp hp : Option Addr} {dN lN N : Nat} {c : Cx} {t : CT} (h : Gst dm iv pa gp hp dN lN N c t) : pa = oA c.par := by
  cases c with
  | top => exact h.1
  | fr c d p o => exact h.1
section
variable {w0 w : World} {tb : Nat} {D0 D : List Nat} {s : St} {o0 : Option Nat} {m num : Nat} {iv : Spn} {k : Value → W} {dm : Nat} {Lb : List (Nat × Spn)} {dN lN K N : Nat} {pa gp hp : Option Addr} {L : List Spn}
  {ag : Option Addr → Value → Addr → Option Addr → Option Addr → Option Addr → Int → Int → Int → Int → Int → Int → Option Addr → W} {c : Cx} {t : CT}
/-- What lies to the sides of a node is ordered. -/
theorem side_lt {sd : Nat} {x y : CT} {n : Nd} (h : Plc s dm Lb c (CT.mk sd x n y)) (lk : Lok D dm Lb) (hsd : sd < 2) : (sd = 1 → ∀ q ∈ y.nds, klt q.x n.x) ∧ (sd = 0 → ∀ q ∈ y.nds, klt n.x q.x) := by
  have so := lk.so
  rw [← h.xs] at so
  unfold CT.xs at so
  rw [Cx.plug_nds] at so
  rw [List.map_append, List.map_append] at so
  have so := (List.pairwise_append.1 (List.pairwise_append.1 so).1).2.1
  constructor
  · rintro rfl q hq
    have : (CT.mk 1 x n y).nds = y.nds ++ n :: x.nds := rfl
    rw [this, List.map_append] at so
    exact (List.pairwise_append.1 so).2.2 q.x (List.mem_map.2 ⟨q, hq, rfl⟩) n.x (by simp)
  · rintro rfl q hq
    have : (CT.mk 0 x n y).nds = x.nds ++ n :: y.nds := rfl
    rw [this, List.map_append] at so
    have := (List.pairwise_append.1 so).2.1
    rw [List.map_cons] at this
    exact (List.pairwise_cons.1 this).1 q.x (List.mem_map.2 ⟨q, hq, rfl⟩)
/-- The order is kept one step down. -/
theorem down_ord {sd : Nat} {x y : CT} {n : Nd} (h : Plc s dm Lb c (CT.mk sd x n y)) (lk : Lok D dm Lb) (hsd : cmpS n.x.lo iv.lo n.x.id iv.id = sd) (hid : n.x.id ≠ iv.id) (pre : ∀ n ∈ c.pre, klt n.x iv) (post : ∀ n ∈ c.post, klt iv n.x) :
    (∀ q ∈ (Cx.fr c sd n y).pre, klt q.x iv) ∧ ∀ q ∈ (Cx.fr c sd n y).post, klt iv q.x := by
  have hs2 : sd < 2 := by rw [← hsd]; exact cmp_two _ _
  obtain ⟨s1, s0⟩ := side_lt h lk hs2
  by_cases hk : klt n.x iv
  · rw [cmp_r hk] at hsd
    subst hsd
    refine ⟨fun q hq => ?_, fun q hq => ?_⟩
    · simp only [Cx.pre, if_neg (show ¬ (1 = 0) by decide), List.mem_append, List.mem_singleton] at hq
      rcases hq with hq | hq | rfl
      · exact pre q hq
      · exact (s1 rfl q hq).trans hk
      · exact hk
    · simp only [Cx.post, if_neg (show ¬ (1 = 0) by decide), List.nil_append] at hq
      exact post q hq
  · rw [cmp_l hk] at hsd
    subst hsd
    have hk' := klt_tri hid hk
    refine ⟨fun q hq => ?_, fun q hq => ?_⟩
    · simp only [Cx.pre, if_pos, List.append_nil] at hq
      exact pre q hq
    · simp only [Cx.post, if_pos, List.mem_append, List.mem_cons] at hq
      rcases hq with (rfl | hq) | hq
      · exact hk'
      · exact hk'.trans (s0 rfl q hq)
      · exact post q hq
theorem rb_kid {sd : Nat} {x y : CT} {n : Nd} (rb : (CT.mk sd x n y).RB K) (crb : c.RB n.red K) : ∃ K', x.RB K' ∧ (Cx.fr c sd n y).RB x.red K' := by
  cases hr : n.red with
  | true =>
    rw [CT.mk_RB_red hr] at rb
    obtain ⟨h1, h2, h3, h4⟩ := rb
    refine ⟨K, h1, h2, fun _ => ⟨h3, h4⟩, ?_⟩
    rw [hr, if_pos rfl]; rw [hr] at crb; exact crb
  | false =>
    rw [CT.mk_RB_black hr] at rb
    obtain ⟨K', rfl, h1, h2⟩ := rb
    refine ⟨K', h1, h2, fun h => by rw [hr] at h; (cases h), ?_⟩
    rw [hr, if_neg (by decide)]; rw [hr] at crb; exact crb
theorem bn_kid {sd : Nat} {x y : CT} {n : Nd} (bn : BndT (CT.mk sd x n y)) (cbn : c.Bnd (CT.mk sd x n y).xs) : BndT x ∧ (Cx.fr c sd n y).Bnd x.xs := by
  obtain ⟨h1, h2, h3⟩ := BndT.mk_iff.1 bn
  refine ⟨h2, h1, h3, cbn.mono fun z hz => ?_⟩
  have := ((CT.mk_nds sd x y n).map Nd.x).mem_iff (a := z)
  unfold CT.xs
  rw [this]
  simpa [CT.xs] using hz
/-- The next round of add. -/
theorem add_next {K : Nat} {sd : Nat} {x y : CT} {n : Nd} {N' : Nat} (hag : ∀ tree v dmA pa gp node dir last ol id mx lo hp w', ∀ N' < N, AL w0 tb D0 m num iv L N' tree v dmA pa gp node dir last ol id mx lo hp w' → ag tree v dmA pa gp node dir last ol id mx lo hp w')
    (h : WS w0 w tb D0 D s o0 m num iv) (lk : Lok D dm Lb) (pl : Plc s dm Lb c (CT.mk sd x n y)) (pre : ∀ n ∈ c.pre, klt n.x iv) (post : ∀ n ∈ c.post, klt iv n.x) (ex : ∀ f ∈ c.frs, iv.hi ≤ f.mx ∧ f.mn ≤ iv.lo) (exn : iv.hi ≤ n.mx ∧ n.mn ≤ iv.lo)
    (rb : (CT.mk sd x n y).RB K) (crb : c.RB n.red K) (bn : BndT (CT.mk sd x n y)) (cbn : c.Bnd (CT.mk sd x n y).xs) (eL : Lb.map Prod.snd = L) (hid : n.x.id ≠ iv.id) (hd : dN < 2) (hsd : cmpS n.x.lo iv.lo n.x.id iv.id = sd) (hN : N' < N)
    (hg : Gst dm iv (some ⟨n.b, 0, none⟩) pa (if gp.isNone then hp else gp) sd dN N' (.fr c sd n y) x) :
    F40_J5 k ag (ta tb) iv.v ⟨dm, 0, none⟩ pa gp (some ⟨n.b, 0, none⟩) ((dN : Nat) : Int) ((iv.id : Nat) : Int) iv.hi iv.lo hp w := by
  have hs2 : sd < 2 := by rw [← hsd]; exact cmp_two _ _
  have rt := pl.rt
  rw [CT.mk_blk] at rt
  obtain ⟨-, hh, hx, -⟩ := (RepT.mk_iff hs2).1 rt
  have nD : n.b ∈ D := pl.inD lk _ (.inl (mk_mem.2 (.inl rfl)))
  refine J5 h nD hh.1 hd (fun e => absurd e hid) fun _ w' h' => ?_
  rw [hsd, hx.blk]
  obtain ⟨o1, o2⟩ := down_ord pl lk hsd hid pre post
  obtain ⟨K', r1, r2⟩ := rb_kid rb crb
  obtain ⟨b1, b2⟩ := bn_kid bn cbn
  refine hag _ _ _ _ _ _ _ _ _ _ _ _ _ _ N' hN ⟨D, s, o0, dm, Lb, .fr c sd n y, x, sd, dN, K', rfl, rfl, rfl, rfl, rfl, rfl, rfl, rfl, rfl, rfl, h', lk, pl.down hs2, o1, o2, fun f hf => ?_, r1, r2, b1, b2, eL, hs2, hd, hg⟩
  rcases List.mem_cons.1 hf with rfl | hf
  · exact exn
  · exact ex f hf
theorem nd_side (l r : CT) (n : Nd) {sd : Nat} (h : sd < 2) : ∃ x y, CT.nd l n r = CT.mk sd x n y ∧ (x = l ∧ y = r ∨ x = r ∧ y = l) := by
  have : sd = 0 ∨ sd = 1 := by omega
  rcases this with rfl | rfl
  · exact ⟨l, r, rfl, .inl ⟨rfl, rfl⟩⟩
  · exact ⟨r, l, rfl, .inr ⟨rfl, rfl⟩⟩
theorem rot1_pre {c2 : Cx} {d : Nat} {g p g' p' : Nd} {o2 o : CT} {P : Spn → Prop} (hd : d < 2) (hg : g'.x = g.x) (hp : p'.x = p.x) (h : ∀ n ∈ (Cx.fr (.fr c2 d g o2) d p o).pre, P n.x) : ∀ n ∈ (Cx.fr c2 d p' (CT.mk (1 - d) o2 g' o)).pre, P n.x := fun q hq => by
  have : d = 0 ∨ d = 1 := by omega
  rcases this with rfl | rfl
  · simp [Cx.pre] at hq h
    exact h q hq
  · simp [Cx.pre, CT.mk, CT.nds] at hq h
    rcases hq with hq | hq | rfl | hq | rfl
    · exact h q (.inl hq)
    · exact h q (.inr (.inl hq))
    · rw [hg]; exact h g (.inr (.inr (.inl rfl)))
    · exact h q (.inr (.inr (.inr (.inl hq))))
    · rw [hp]; exact h p (.inr (.inr (.inr (.inr rfl))))
theorem rot1_post {c2 : Cx} {d : Nat} {g p g' p' : Nd} {o2 o : CT} {P : Spn → Prop} (hd : d < 2) (hg : g'.x = g.x) (hp : p'.x = p.x) (h : ∀ n ∈ (Cx.fr (.fr c2 d g o2) d p o).post, P n.x) : ∀ n ∈ (Cx.fr c2 d p' (CT.mk (1 - d) o2 g' o)).post, P n.x := fun q hq => by
  have : d = 0 ∨ d = 1 := by omega
  rcases this with rfl | rfl
  · simp [Cx.post, CT.mk, CT.nds] at hq h
    rcases hq with rfl | hq | rfl | hq | hq
    · rw [hp]; exact h.1
    · exact h.2 q (.inl hq)
    · rw [hg]; exact h.2 g (.inr (.inl rfl))
    · exact h.2 q (.inr (.inr (.inl hq)))
    · exact h.2 q (.inr (.inr (.inr hq)))
  · simp [Cx.post] at hq h
    exact h q hq
theorem pre_sub (c : Cx) (d : Nat) (n : Nd) (o : CT) {q : Nd} (h : q ∈ c.pre) : q ∈ (Cx.fr c d n o).pre := List.mem_append_left _ h
theorem post_sub (c : Cx) (d : Nat) (n : Nd) (o : CT) {q : Nd} (h : q ∈ c.post) : q ∈ (Cx.fr c d n o).post := List.mem_append_right _ h
theorem fr_cmp {d : Nat} {n : Nd} {o : CT} (hd : d < 2) (pre : ∀ q ∈ (Cx.fr c d n o).pre, klt q.x iv) (post : ∀ q ∈ (Cx.fr c d n o).post, klt iv q.x) : cmpS n.x.lo iv.lo n.x.id iv.id = d := by
  have : d = 0 ∨ d = 1 := by omega
  rcases this with rfl | rfl
  · exact cmp_l fun h => h.asymm (post n (by simp [Cx.post]))
  · exact cmp_r (pre n (by simp [Cx.pre]))
/-- What is kept of a node that comes by: it was flipped, or it was not. -/
def Fi (n : Nd) (l r : CT) (c : Cx) : Prop := (n.red = true ∧ Bt l ∧ Bt r) ∨ ((l.red && r.red) = false ∧ (n.red = true → c.pred = false))
theorem Cx.blk_some (c : Cx) (h : c ≠ .top) (dm : Nat) : c.par = some (c.blk dm) := by
  cases c with
  | top => exact absurd rfl h
  | fr c d p o => rfl
/-- A node that was there. -/
theorem add_mid {l r : CT} {n : Nd} (hag : ∀ tree v dmA pa gp node dir last ol id mx lo hp w', ∀ N' < N, AL w0 tb D0 m num iv L N' tree v dmA pa gp node dir last ol id mx lo hp w' → ag tree v dmA pa gp node dir last ol id mx lo hp w')
    (h : WS w0 w tb D0 D s o0 m num iv) (lk : Lok D dm Lb) (pl : Plc s dm Lb c (.nd l n r)) (pre : ∀ n ∈ c.pre, klt n.x iv) (post : ∀ n ∈ c.post, klt iv n.x) (ex : ∀ f ∈ c.frs, iv.hi ≤ f.mx ∧ f.mn ≤ iv.lo)
    (rb : (CT.nd l n r).RB K) (crb : c.RB false K) (bn : BndT (.nd l n r)) (cbn : c.Bnd (CT.nd l n r).xs) (eL : Lb.map Prod.snd = L) (hd : dN < 2) (hl : lN < 2) (hid : n.x.id ≠ iv.id)
    (hpa : pa = oA c.par) (fi : Fi n l r c)
    (hm : (∃ p d o c1, c = .fr c1 d p o ∧ dN = d ∧ gp = some ⟨c1.blk dm, 0, none⟩ ∧ Bt (.nd l n r) ∧ N = 3 * (CT.nd l n r).nds.length)
      ∨ (∃ p d o c1 sd x y, c = .fr c1 d p o ∧ dN = d ∧ gp ≠ none ∧ p.red = false ∧ n.red = true ∧ CT.nd l n r = CT.mk sd x n y ∧ cmpS n.x.lo iv.lo n.x.id iv.id = sd ∧ Bt x ∧ N = 3 * x.nds.length + 1)
      ∨ ((c = .top → gp = none ∧ hp = some ⟨dm, 0, none⟩ ∧ (n.red = true → Bt l ∧ Bt r)) ∧ (∀ c1 d p o, c = .fr c1 d p o → dN = d ∧ VarOk dm gp hp lN c1 ∧ (p.red = true → n.red = true → c1.Au) ∧ (p.red = false → n.red = true → (Bt l ∧ Bt r) ∨ o.red = false)) ∧ N = 3 * (CT.nd l n r).nds.length)) :
    F40_J1 k ag (ta tb) iv.v ⟨dm, 0, none⟩ pa gp (some ⟨n.b, 0, none⟩) ((dN : Nat) : Int) ((lN : Nat) : Int) ((1 - lN : Nat) : Int) ((iv.id : Nat) : Int) iv.hi iv.lo hp w := by
  have hsd2 := cmp_two n.x iv
  obtain ⟨x, y, exy, hxy⟩ := nd_side l r n hsd2
  have len : (CT.nd l n r).nds.length = x.nds.length + 1 + y.nds.length := by rw [exy]; exact mk_len
  have btxy : Bt l ∧ Bt r → Bt x ∧ Bt y := fun ⟨h1, h2⟩ => by
    rcases hxy with ⟨rfl, rfl⟩ | ⟨rfl, rfl⟩
    · exact ⟨h1, h2⟩
    · exact ⟨h2, h1⟩
  have rdxy : (l.red && r.red) = false → x.red = true → y.red = false := fun h0 => by
    rcases hxy with ⟨rfl, rfl⟩ | ⟨rfl, rfl⟩
    · intro h1; rw [h1] at h0; exact h0
    · intro h1; rw [h1, Bool.and_true] at h0; exact h0
  have nmk : ∀ n' : Nd, CT.nd l n' r = CT.mk (cmpS n.x.lo iv.lo n.x.id iv.id) x n' y := fun n' => by
    generalize cmpS n.x.lo iv.lo n.x.id iv.id = sd at *
    have : sd = 0 ∨ sd = 1 := by omega
    rcases this with rfl | rfl
    · injection exy with a1 a2 a3
      show CT.nd l n' r = CT.nd x n' y
      rw [a1, a3]
    · injection exy with a1 a2 a3
      show CT.nd l n' r = CT.nd y n' x
      rw [a1, a3]
  -- the next place, where nothing is turned
  have bt_red : Bt (.nd l n r) → n.red = false := fun h => h.1
  refine add_node h lk pl rb crb bn cbn ex hpa hd hl (fun hp1 hn => ?_) (fun hno w' s' n' h' pl' e1 e2 e3 ex' bn' => ?_) (fun hn c2 g p o2 o ec hp1 w' s' n' g' p' h' pl' e1 e2 e3 ex' bn' e4 e5 e6 e7 e8 exp rb' bd' => ?_) (fun hn c2 g p o2 o ec hp1 w' s' g' p' n' B C eBC b0 b1 h' pl' e1 e2 e3 e4 e5 e6 e7 ex' rb' crb' bn' bd' => ?_)
  · -- a rotation has what it asks for
    rcases hm with ⟨p, d, o, c1, rfl, -, -, hb, -⟩ | ⟨p, d, o, c1, sd, x', y', rfl, -, -, hp2, -⟩ | ⟨ht, hf, -⟩
    · rw [hb.1] at hn; cases hn
    · have hp1 : p.red = true := hp1
      rw [hp2] at hp1; cases hp1
    · cases c with
      | top => cases hp1
      | fr c1 d p o =>
        obtain ⟨g1, g2, g3, -⟩ := hf c1 d p o rfl
        have au := g3 hp1 hn
        cases c1 with
        | top => exact au.elim
        | fr c2 d2 g o2 => exact ⟨c2, d2, g, o2, d, p, o, rfl, au.1, au.2, g2.1, g2.2.1, g2.2.2, g1⟩
  · -- nothing is turned
    rw [nmk n'] at pl' bn'
    have sd' : cmpS n'.x.lo iv.lo n'.x.id iv.id = cmpS n.x.lo iv.lo n.x.id iv.id := by rw [e2]
    have rbx : (CT.mk (cmpS n.x.lo iv.lo n.x.id iv.id) x n' y).RB K := by rw [← nmk n', rb_root e3]; exact rb
    have cbx : c.Bnd (CT.mk (cmpS n.x.lo iv.lo n.x.id iv.id) x n' y).xs := by rw [← nmk n', xs_root e2]; exact cbn
    rw [← e1]
    have crb' : c.RB n'.red K := crb.lift (by rw [e3]; exact hno)
    rcases hm with ⟨p, d, o, c1, rfl, hdn, hgp, hb, hN⟩ | ⟨p, d, o, c1, sd, x', y', rfl, hdn, hgp, hp2, hnr, het, hcs, hbx, hN⟩ | ⟨ht, hf, hN⟩
    · -- the helper was stale
      have hx : x.red = false ∧ y.red = false := by rcases hxy with ⟨rfl, rfl⟩ | ⟨rfl, rfl⟩ <;> exact ⟨by first | exact hb.2.1 | exact hb.2.2, by first | exact hb.2.2 | exact hb.2.1⟩
      refine add_next (N' := 3 * x.nds.length) hag h' lk pl' pre post ex ex' rbx crb' bn' cbx eL (by rw [e2]; exact hid) hd sd' (by omega) ⟨rfl, rfl, .inl ⟨⟨hpa, hdn, by rw [hgp]; rfl⟩, fun _ h => by rw [hx.1] at h; (cases h), fun h => ?_, rfl⟩⟩
      rw [e3, hb.1] at h; cases h
    · -- two were stale
      have hx' : x' = x := by
        subst hcs
        generalize cmpS n.x.lo iv.lo n.x.id iv.id = sd at *
        rw [exy] at het
        have : sd = 0 ∨ sd = 1 := by omega
        rcases this with rfl | rfl <;> (injection het with a1 a2 a3) <;> first | exact a1.symm | exact a3.symm
      subst hx'
      refine add_next (N' := 3 * x'.nds.length) hag h' lk pl' pre post ex ex' rbx crb' bn' cbx eL (by rw [e2]; exact hid) hd sd' (by omega) ⟨rfl, rfl, .inr (.inl ⟨?_, hbx, rfl⟩)⟩
      rw [hpa]; rfl
    · refine add_next (N' := 3 * x.nds.length) hag h' lk pl' pre post ex ex' rbx crb' bn' cbx eL (by rw [e2]; exact hid) hd sd' (by omega) ⟨rfl, rfl, .inl ⟨?_, fun hr hxr => ?_, fun hr => ?_, rfl⟩⟩
      · cases c with
        | top =>
          obtain ⟨g1, g2, -⟩ := ht rfl
          exact ⟨hpa, by rw [g1]; exact g2⟩
        | fr c1 d p o =>
          obtain ⟨g1, g2, -⟩ := hf c1 d p o rfl
          refine ⟨hpa, g1, ?_⟩
          cases c1 with
          | top => rw [g2.1]; exact g2.2
          | fr c2 d2 g o2 => rw [g2.1]; rfl
      · rw [e3] at hr
        rcases fi with ⟨f1, -⟩ | ⟨f1, -⟩
        · rw [f1] at hr; cases hr
        · exact rdxy f1 hxr
      · rw [e3] at hr
        rcases fi with ⟨-, f2⟩ | ⟨-, f2⟩
        · exact .inl (btxy f2).1
        · have hc := f2 hr
          cases c with
          | top => exact .inl (btxy ((ht rfl).2.2 hr)).1
          | fr c1 d p o =>
            rcases (hf c1 d p o rfl).2.2.2 hc hr with g | g
            · exact .inl (btxy g).1
            · exact .inr ⟨hc, g⟩
  · -- behind a single rotation
    subst ec
    rcases hm with ⟨p, d, o, c1, ec, hdn, hgp, hb, hN⟩ | ⟨p', d, o, c1, sd, x', y', ec, hdn, hgp, hp2, hnr, het, hcs, hbx, hN⟩ | ⟨ht, hf, hN⟩
    · rw [hb.1] at hn; cases hn
    · injection ec with _ _ ep _
      rw [← ep, hp1] at hp2; cases hp2
    · have fb : Bt x := by
        rcases fi with ⟨-, f2⟩ | ⟨-, f2⟩
        · exact (btxy f2).1
        · have g1 : p.red = false := f2 hn
          rw [hp1] at g1; cases g1
      obtain ⟨g1, g2, g3, -⟩ := hf _ _ _ _ rfl
      rw [nmk n'] at pl' bn' bd'
      have sd' : cmpS n'.x.lo iv.lo n'.x.id iv.id = cmpS n.x.lo iv.lo n.x.id iv.id := by rw [e2]
      have rbx : (CT.mk (cmpS n.x.lo iv.lo n.x.id iv.id) x n' y).RB K := by rw [← nmk n', rb_root (n := n) (n' := n') (by rw [e3, hn])]; exact rb
      rw [← e1]
      refine add_next (N' := 3 * x.nds.length) hag h' lk pl' (rot1_pre (P := fun x => klt x iv) hd e7 e5 pre) (rot1_post hd e7 e5 (P := fun x => klt iv x) post) (fun f hf => ?_) ex' rbx (by rw [e3]; exact rb') bn' bd' eL (by rw [e2]; exact hid) hd sd' (by omega) ⟨rfl, rfl, .inr (.inl ⟨by rw [← e4]; rfl, fb, rfl⟩)⟩
      rcases List.mem_cons.1 hf with rfl | hf
      · exact exp
      · exact ex f (List.mem_cons_of_mem _ (List.mem_cons_of_mem _ hf))
  · -- behind a double rotation
    subst ec
    rcases hm with ⟨p, d, o, c1, ec, hdn, hgp, hb, hN⟩ | ⟨p', d, o, c1, sd, x', y', ec, hdn, hgp, hp2, hnr, het, hcs, hbx, hN⟩ | ⟨ht, hf, hN⟩
    · rw [hb.1] at hn; cases hn
    · injection ec with _ _ ep _
      rw [← ep, hp1] at hp2; cases hp2
    · have fb : Bt B ∧ Bt C := by
        rcases fi with ⟨-, f2⟩ | ⟨-, f2⟩
        · have : dN = 0 ∨ dN = 1 := by omega
          rcases this with h0 | h0
          · obtain ⟨rfl, rfl⟩ := b0 h0; exact f2
          · obtain ⟨rfl, rfl⟩ := b1 h0; exact ⟨f2.2, f2.1⟩
        · have g1 : p.red = false := f2 hn
          rw [hp1] at g1; cases g1
      have lenBC : (CT.nd l n r).nds.length = B.nds.length + 1 + C.nds.length := by
        have := congrArg List.length eBC
        rw [List.length_map, List.length_map] at this
        rw [← this]; exact mk_len
      have sd' : cmpS n'.x.lo iv.lo n'.x.id iv.id = cmpS n.x.lo iv.lo n.x.id iv.id := by rw [e6]
      have cg : cmpS g.x.lo iv.lo g.x.id iv.id = 1 - dN := fr_cmp (c := c2) (o := o2) (by omega) (fun q hq => pre q (pre_sub _ _ _ _ hq)) fun q hq => post q (post_sub _ _ _ _ hq)
      have cp : cmpS p.x.lo iv.lo p.x.id iv.id = dN := fr_cmp hd pre post
      have pre' : ∀ q ∈ c2.pre, klt q.x iv := fun q hq => pre q (pre_sub _ _ _ _ (pre_sub _ _ _ _ hq))
      have post' : ∀ q ∈ c2.post, klt iv q.x := fun q hq => post q (post_sub _ _ _ _ (post_sub _ _ _ _ hq))
      have exx : ∀ f ∈ c2.frs, iv.hi ≤ f.mx ∧ f.mn ≤ iv.lo := fun f hf => ex f (List.mem_cons_of_mem _ (List.mem_cons_of_mem _ hf))
      rw [← e5]
      by_cases hs : cmpS n.x.lo iv.lo n.x.id iv.id = dN
      · refine add_next (N' := 3 * B.nds.length + 1) hag h' lk pl' pre' post' exx ex' rb' (by rw [e7]; exact crb') bn' bd' eL (by rw [e6]; exact hid) hd (by rw [sd', hs]) (by omega) ⟨rfl, rfl, .inr (.inr ⟨by simp, e7, 1 - dN, B, g', o2, (CT.mk_flip hd _ _ _).symm, by omega, e4, by rw [e3, cg], fb.1, rfl⟩)⟩
      · have hs' : cmpS n.x.lo iv.lo n.x.id iv.id = 1 - dN := by omega
        have ef : CT.mk dN (CT.mk dN o2 g' B) n' (CT.mk dN C p' o) = CT.mk (1 - dN) (CT.mk dN C p' o) n' (CT.mk dN o2 g' B) := (CT.mk_flip hd _ _ _).symm
        rw [ef] at pl' rb' bn' bd'
        refine add_next (N' := 3 * C.nds.length + 1) hag h' lk pl' pre' post' exx ex' rb' (by rw [e7]; exact crb') bn' bd' eL (by rw [e6]; exact hid) hd (by rw [sd', hs']) (by omega) ⟨rfl, rfl, .inr (.inr ⟨by simp, e7, dN, C, p', o, rfl, hd, e2, by rw [e1, cp], fb.2, rfl⟩)⟩
end
end Go.Proofs.Ythapmkjmfkmnoaa.E
