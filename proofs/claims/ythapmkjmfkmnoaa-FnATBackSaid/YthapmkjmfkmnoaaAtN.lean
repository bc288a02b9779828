/-
  Interval trees: what delete turns on its way down.
-/
import Derived.Test.YthapmkjmfkmnoaaAtM
namespace Go.Proofs.Ythapmkjmfkmnoaa.E
open Go
set_option linter.unusedSimpArgs false
set_option linter.unusedVariables false
set_option maxRecDepth 100000
set_option maxHeartbeats 8000000

section
variable {w0 w : World} {tb : Nat} {D0 D : List Nat} {s : St} {o0 : Option Nat} {m num : Nat} {iv : Spn} {k : Value → W} {dm d : Nat} {Lb : List (Nat × Spn)} {c : Cx}
/-- A rotation in its place. -/
def Q1 (dm : Nat) (c : Cx) (d : Nat) (A B C : CT) (b p : Nd) (s2 : St) : Prop := ∃ b' p', RepT s2 (some p.b) (CT.mk d (CT.mk d A b' B) p' C) ∧ CxR s2 dm c (some b.b) ∧ s2 dm = s2 dm ∧ b'.b = b.b ∧ b'.x = b.x ∧ b'.red = true ∧ p'.b = p.b ∧ p'.x = p.x ∧ p'.red = false
theorem rot1_do {A B C : CT} {b p : Nd} {K : Value → W} (h : WS w0 w tb D0 D s o0 m num iv) (lk : Lok D dm Lb) (pl : Plc s dm Lb c (CT.mk d A b (CT.mk d B p C))) (hd : d < 2)
    (hK : ∀ w2 s2, WS w0 w2 tb D0 D s2 o0 m num iv → Q1 dm c d A B C b p s2 → K (.pointer (some ⟨p.b, 0, none⟩)) w2) : F48 K (some ⟨b.b, 0, none⟩) ((d : Nat) : Int) w := by
  obtain ⟨nT, nC, nX⟩ := sp_nodup (pl.nodup lk)
  have R := pl.rt
  rw [CT.mk_blk] at R
  have cx := pl.cx
  rw [CT.mk_blk] at cx
  have mb : b.b ∈ (CT.mk d A b (CT.mk d B p C)).bls := mk_mem.2 (.inl rfl)
  have mp : p.b ∈ (CT.mk d A b (CT.mk d B p C)).bls := mk_mem.2 (.inr (.inr (mk_mem.2 (.inl rfl))))
  refine rotT (b := b) (c := p) h.ms hd R nT (fun y hy => pl.inD lk y (.inl hy)) fun w' s' b' c' m' r' e1 e2 e3 e4 e5 e6 bd t1 t2 oth f' => hK w' s' (h.upd m' f' fun y hy => ?_) ⟨b', c', r', ?_, rfl, e1, e2, e3, e4, e5, e6⟩
  · rcases hy with rfl | rfl
    · exact pl.inD lk _ (.inl mb)
    · exact pl.inD lk _ (.inl mp)
  · exact cx.frame (fun y hy => oth y (fun e => (nX _ mb).1 (e ▸ hy)) fun e => (nX _ mp).1 (e ▸ hy)) (oth dm (fun e => (nX _ mb).2 e.symm) fun e => (nX _ mp).2 e.symm)
/-- The link to a turned tree. -/
theorem plc_set {T T' : CT} {r : Nat} {s2 : St} {ob : Option Nat} (pl : Plc s dm Lb c T) (lk : Lok D dm Lb) (q1 : RepT s2 (some r) T') (q2 : CxR s2 dm c ob) (e : T'.nds.map bx = T.nds.map bx) (er : T'.blk = some r) :
    Plc (up s2 (c.blk dm) (setC (s2 (c.blk dm)) c.dir (some r))) dm Lb c T' := by
  obtain ⟨nT, nC, nX⟩ := sp_nodup (pl.nodup lk)
  have eb : T'.bls = T.bls := by
    have := congrArg (List.map Prod.fst) e
    rw [List.map_map, List.map_map] at this; exact this
  have hnot : ∀ b ∈ T'.bls, b ≠ c.blk dm := fun b hb e => by
    rw [eb] at hb
    have := nX b hb
    cases c with
    | top => exact this.2 e
    | fr c3 d3 n3 o3 => exact this.1 (by rw [fr_bls, e]; exact List.mem_cons_self)
  exact ⟨by rw [er]; exact q2.set nC, by rw [er]; exact q1.frame fun b hb => up_ne (hnot b hb), by rw [plug_congr e]; exact pl.eq⟩
theorem rot_bx {A B C : CT} {b p b' p' : Nd} (hd : d < 2) (e1 : b'.b = b.b) (e2 : b'.x = b.x) (e3 : p'.b = p.b) (e4 : p'.x = p.x) : (CT.mk d (CT.mk d A b' B) p' C).nds.map bx = (CT.mk d A b (CT.mk d B p C)).nds.map bx := by
  have a1 := bx_of e1 e2
  have a2 := bx_of e3 e4
  have : d = 0 ∨ d = 1 := by omega
  rcases this with rfl | rfl <;> simp [CT.mk, CT.nds, a1, a2]
def Q2 (dm : Nat) (c : Cx) (d : Nat) (A B C G : CT) (b p e : Nd) (s2 : St) : Prop := ∃ b' p' e', RepT s2 (some e.b) (CT.mk d (CT.mk d A b' B) e' (CT.mk d C p' G)) ∧ CxR s2 dm c (some b.b) ∧ b'.b = b.b ∧ b'.x = b.x ∧ b'.red = true ∧ p'.b = p.b ∧ p'.x = p.x ∧ p'.red = true ∧ e'.b = e.b ∧ e'.x = e.x ∧ e'.red = false
theorem rot2_do {A B C G : CT} {b p e : Nd} {K : Value → W} (h : WS w0 w tb D0 D s o0 m num iv) (lk : Lok D dm Lb) (pl : Plc s dm Lb c (CT.mk d A b (CT.mk d (CT.mk d B e C) p G))) (hd : d < 2)
    (hK : ∀ w2 s2, WS w0 w2 tb D0 D s2 o0 m num iv → Q2 dm c d A B C G b p e s2 → K (.pointer (some ⟨e.b, 0, none⟩)) w2) : F49 K (some ⟨b.b, 0, none⟩) ((d : Nat) : Int) w := by
  obtain ⟨nT, nC, nX⟩ := sp_nodup (pl.nodup lk)
  have R := pl.rt
  rw [CT.mk_blk] at R
  have cx := pl.cx
  rw [CT.mk_blk] at cx
  have mb : b.b ∈ (CT.mk d A b (CT.mk d (CT.mk d B e C) p G)).bls := mk_mem.2 (.inl rfl)
  have mp : p.b ∈ (CT.mk d A b (CT.mk d (CT.mk d B e C) p G)).bls := mk_mem.2 (.inr (.inr (mk_mem.2 (.inl rfl))))
  have me : e.b ∈ (CT.mk d A b (CT.mk d (CT.mk d B e C) p G)).bls := mk_mem.2 (.inr (.inr (mk_mem.2 (.inr (.inl (mk_mem.2 (.inl rfl)))))))
  refine rot2T (b := b) (c := p) (e := e) h.ms hd R nT (fun y hy => pl.inD lk y (.inl hy)) fun w' s' b' c' e' m' r' e1 e2 e3 e4 e5 e6 e7 e8 e9 bd t1 t2 oth f' => hK w' s' (h.upd m' f' fun y hy => ?_) ⟨b', c', e', r', ?_, e1, e2, e3, e4, e5, e6, e7, e8, e9⟩
  · rcases hy with rfl | rfl | rfl
    · exact pl.inD lk _ (.inl mb)
    · exact pl.inD lk _ (.inl mp)
    · exact pl.inD lk _ (.inl me)
  · exact cx.frame (fun y hy => oth y (fun e => (nX _ mb).1 (e ▸ hy)) (fun e => (nX _ mp).1 (e ▸ hy)) fun e' => (nX _ me).1 (e' ▸ hy)) (oth dm (fun e => (nX _ mb).2 e.symm) (fun e => (nX _ mp).2 e.symm) fun e' => (nX _ me).2 e'.symm)
theorem rot2_bx {A B C G : CT} {b p e b' p' e' : Nd} (hd : d < 2) (e1 : b'.b = b.b) (e2 : b'.x = b.x) (e3 : p'.b = p.b) (e4 : p'.x = p.x) (e5 : e'.b = e.b) (e6 : e'.x = e.x) : (CT.mk d (CT.mk d A b' B) e' (CT.mk d C p' G)).nds.map bx = (CT.mk d A b (CT.mk d (CT.mk d B e C) p G)).nds.map bx := by
  have a1 := bx_of e1 e2
  have a2 := bx_of e3 e4
  have a3 := bx_of e5 e6
  have : d = 0 ∨ d = 1 := by omega
  rcases this with rfl | rfl <;> simp [CT.mk, CT.nds, a1, a2, a3]
/-- A colour is set. -/
def rc (n : Nd) (v : Bool) : Nd := { n with red := v }
theorem Plc.rdr {x y : CT} {n : Nd} {v : Bool} (h : Plc s dm Lb c (CT.mk d x n y)) (lk : Lok D dm Lb) : Plc (rd s n.b v) dm Lb c (CT.mk d x (rc n v) y) := by
  have one : ∀ {l r : CT}, Plc s dm Lb c (.nd l n r) → Plc (rd s n.b v) dm Lb c (.nd l (rc n v) r) := fun {l r} h => by
    have hh : Hd (s n.b) n := h.rt.2 n (by simp [CT.nds])
    exact h.root lk (fun b hb => up_ne hb) (rd_links _ _ _ _).1 (rd_links _ _ _ _).2.1 rfl rfl (by unfold rd; rw [up_same]; exact ⟨hh.1, hh.2.1, hh.2.2.1, rfl⟩)
  unfold CT.mk at *
  split at h
  · rename_i h0; rw [if_pos h0]; exact one h
  · rename_i h0; rw [if_neg h0]; exact one h
theorem rd_comm {a b : Nat} {v v' : Bool} (h : a ≠ b) : rd (rd s a v) b v' = rd (rd s b v') a v := by
  funext y
  unfold rd up
  by_cases h1 : y = a
  · by_cases h2 : y = b
    · exact absurd (h1.symm.trans h2) h
    · simp [h1, h, Ne.symm h]
  · by_cases h2 : y = b
    · simp [h1, h2, h, Ne.symm h]
    · simp [h1, h2]
/-- Where the search for the key stands. -/
def FOk (iv : Spn) (found : Option Addr) (c : Cx) (t : CT) : Prop := (found = none ∧ ∃ z ∈ t.nds, z.x.id = iv.id) ∨ ∃ z ∈ c.frs, found = some ⟨z.b, 0, none⟩ ∧ z.x.id = iv.id
/-- The colour at the place: the parent, or the tree, is red, unless the parent is the root. -/
def Col : Cx → CT → Prop
  | .top, _ => True
  | .fr c2 _ p o, t => p.red = true ∨ t.red = true ∨ (c2 = .top ∧ o.red = false)
def Cx.gp (dm : Nat) : Cx → Option Addr
  | .top => none
  | .fr c2 _ _ _ => some ⟨c2.blk dm, 0, none⟩
structure DS (D : List Nat) (dm : Nat) (iv : Spn) (L : List Spn) (s : St) (Lb : List (Nat × Spn)) (c : Cx) (t : CT) (found pa : Option Addr) : Prop where
  lk : Lok D dm Lb
  pl : Plc s dm Lb c t
  pre : ∀ n ∈ c.pre, klt n.x iv
  post : ∀ n ∈ c.post, ¬ klt n.x iv
  rb : ∃ K, t.RB K ∧ c.RB t.red K
  col : Col c t
  eL : Lb.map Prod.snd = L
  fo : FOk iv found c t
  pa : pa = c.gp dm
  top : c = .top → t.blk ≠ none ∧ (s dm).c0 = none
theorem frs_mem : ∀ (c : Cx) {n : Nd}, n ∈ c.frs → n ∈ c.pre ∨ n ∈ c.post
  | .top, _, h => by cases h
  | .fr c d m o, n, h => by
    rcases List.mem_cons.1 h with rfl | h
    · by_cases e : d = 0
      · exact .inr (by simp [Cx.post, e])
      · exact .inl (by simp [Cx.pre, e])
    · rcases frs_mem c h with h | h
      · exact .inl (pre_sub _ _ _ _ h)
      · exact .inr (post_sub _ _ _ _ h)
/-- The order one step down. -/
theorem down_ord' {sd : Nat} {x y : CT} {n : Nd} (h : Plc s dm Lb c (CT.mk sd x n y)) (lk : Lok D dm Lb) (hsd : cmpS n.x.lo iv.lo n.x.id iv.id = sd) (pre : ∀ n ∈ c.pre, klt n.x iv) (post : ∀ n ∈ c.post, ¬ klt n.x iv) :
    (∀ q ∈ (Cx.fr c sd n y).pre, klt q.x iv) ∧ ∀ q ∈ (Cx.fr c sd n y).post, ¬ klt q.x iv := by
  have hs2 : sd < 2 := by rw [← hsd]; exact cmp_two _ _
  obtain ⟨s1, s0⟩ := side_lt h lk hs2
  by_cases hk : klt n.x iv
  · rw [cmp_r hk] at hsd
    subst hsd
    refine ⟨fun q hq => ?_, fun q hq => ?_⟩
    · simp only [Cx.pre, if_neg (show ¬ (1 = 0) by decide), List.mem_append, List.mem_singleton] at hq
      rcases hq with hq | hq | rfl
      · exact pre q hq
      · exact (s1 rfl q hq).trans hk
      · exact hk
    · simp only [Cx.post, if_neg (show ¬ (1 = 0) by decide), List.nil_append] at hq
      exact post q hq
  · rw [cmp_l hk] at hsd
    subst hsd
    refine ⟨fun q hq => ?_, fun q hq => ?_⟩
    · simp only [Cx.pre, if_pos, List.append_nil] at hq
      exact pre q hq
    · simp only [Cx.post, if_pos, List.mem_append, List.mem_cons] at hq
      rcases hq with (rfl | hq) | hq
      · exact hk
      · exact fun h => hk ((s0 rfl q hq).trans h)
      · exact post q hq
/-- What was found, one step down. -/
theorem down_fo {sd : Nat} {x y : CT} {n : Nd} {found : Option Addr} (h : Plc s dm Lb c (CT.mk sd x n y)) (lk : Lok D dm Lb) (hsd : cmpS n.x.lo iv.lo n.x.id iv.id = sd) (hlo : ∀ z ∈ Lb.map Prod.snd, z.id = iv.id → z.lo = iv.lo) (fo : FOk iv found c (CT.mk sd x n y)) :
    FOk iv (if n.x.id = iv.id then some ⟨n.b, 0, none⟩ else found) (.fr c sd n y) x := by
  have hs2 : sd < 2 := by rw [← hsd]; exact cmp_two _ _
  by_cases e : n.x.id = iv.id
  · rw [if_pos e]
    exact .inr ⟨n, List.mem_cons_self, rfl, e⟩
  · rw [if_neg e]
    rcases fo with ⟨h1, z, hz, hzi⟩ | ⟨z, hz, h1, h2⟩
    · refine .inl ⟨h1, z, ?_, hzi⟩
      rw [(CT.mk_nds sd x y n).mem_iff] at hz
      have zl : z.x.lo = iv.lo := hlo z.x (by
        rw [← h.xs]
        unfold CT.xs
        rw [Cx.plug_nds]
        refine List.mem_map.2 ⟨z, ?_, rfl⟩
        simp only [List.mem_append]
        exact .inl (.inr ((CT.mk_nds sd x y n).mem_iff.2 hz))) hzi
      simp only [List.mem_cons, List.mem_append] at hz
      rcases hz with rfl | hz | hz
      · exact absurd hzi e
      · exact hz
      · exfalso
        obtain ⟨s1, s0⟩ := side_lt h lk hs2
        by_cases hk : klt n.x iv
        · rw [cmp_r hk] at hsd
          have := s1 hsd.symm z hz
          unfold klt at this hk
          omega
        · have hk' := hk
          rw [cmp_l hk] at hsd
          have := s0 hsd.symm z hz
          unfold klt at this hk'
          omega
    · exact .inr ⟨z, List.mem_cons_of_mem _ hz, h1, h2⟩
end
end Go.Proofs.Ythapmkjmfkmnoaa.E
