/-
  Interval trees: add.
-/
import Derived.Test.YthapmkjmfkmnoaaAtI
namespace Go.Proofs.Ythapmkjmfkmnoaa.E
open Go
set_option linter.unusedSimpArgs false
set_option linter.unusedVariables false
set_option maxRecDepth 100000
set_option maxHeartbeats 8000000

section
variable {w0 w : World} {tb : Nat} {D0 D : List Nat} {s : St} {o0 : Option Nat} {m num : Nat} {iv : Spn} {k : Value → W} {dm : Nat} {Lb : List (Nat × Spn)} {dN lN K N : Nat} {pa gp hp : Option Addr} {L : List Spn}
  {ag : Option Addr → Value → Addr → Option Addr → Option Addr → Option Addr → Int → Int → Int → Int → Int → Int → Option Addr → W} {c : Cx} {t : CT}
/-- What add leaves. -/
def Fin (w0 : World) (tb : Nat) (D0 : List Nat) (m num : Nat) (iv : Spn) (L : List Spn) (k : Value → W) : Prop := ∀ w' D s' T, WS w0 w' tb D0 D s' T.blk m (num + 1) iv → (∀ b ∈ T.bls, b ∈ D) → RepT s' T.blk T → T.red = false → (∃ N, T.RB N) → BndT T → T.bls.Nodup → T.xs.Perm (iv :: L) → T.xs.Pairwise klt → k (.tuple #[]) w'
/-- The new node. -/
theorem add_leaf {d : Nat} {p : Nd} {o : CT} (hfin : Fin w0 tb D0 m num iv L k) (hnum : num < 1000000000) (h : AL0 w0 tb D0 m num iv L N D s o0 dm Lb (.fr c d p o) .lf dN lN K pa gp hp w) :
    F40_L1 k ag (ta tb) iv.v ⟨dm, 0, none⟩ pa gp none ((dN : Nat) : Int) ((lN : Nat) : Int) ((1 - lN : Nat) : Int) ((iv.id : Nat) : Int) iv.hi iv.lo hp w := by
  obtain ⟨ws, lk, pl, pre, post, ex, rb, crb, bn, cbn, eL, hd2, hl2, g⟩ := h
  obtain ⟨rfl, rfl, g⟩ := g
  have g : VarOk dm gp hp lN c ∧ (p.red = true → c.Au) := by
    rcases g with ⟨g1, -, g3, -⟩ | ⟨-, g2, -⟩ | ⟨-, -, sd, x, n, y, e, -⟩
    · exact ⟨g1, fun h => (g3 h).elim (fun h => h.elim) id⟩
    · exact g2.elim
    · exfalso
      unfold CT.mk at e
      split at e <;> cases e
  have eK : K = 0 := rb
  subst eK
  have cD : ∀ b ∈ (Cx.fr c dN p o).bls, b ∈ D := fun b hb => pl.inD lk b (.inr hb)
  have pD : p.b ∈ D := cD _ (by rw [fr_bls]; exact List.mem_cons_self)
  unfold F40_L1
  rw [show (none : Option Addr).isNone = true from rfl, BIf_true]
  refine F45_call (F45_spec ws fun w1 b nb nt hsz h1 => back_ptr ?_)
  simp only [NN_mk, add_mk, Nat.zero_add, Int.toNat_natCast]
  refine Req_iff.2 ⟨by omega, ?_⟩
  show Store1 ⟨p.b, 3 + dN, none⟩ (.pointer (oA (some b))) _ w1
  refine st_ch h1.ms (List.mem_cons_of_mem _ pD) hd2 fun w2 m2 f2 z2 => ?_
  have h2 := h1.one (List.mem_cons_of_mem _ pD) m2 f2
  refine load_int (i := 2) h2.tr rfl ?_
  rw [addI_u64 (by omega) (by omega)]
  refine store_intro (i := 2) h2.tr (by simp [tcells]) rfl fun w3 b3 f3 z3 => ?_
  have h3 := h2.tbu (o' := o0) (m' := m) (num' := num + 1) (by
    have e : (tcells o0 m num).set 2 (.int .u64 (((num : Nat) : Int) + 1)) = tcells o0 m (num + 1) := by
      simp [tcells]
    rw [← e]; exact b3) f3
  -- the place of the new node
  have pn := pl.nodup lk
  obtain ⟨-, nC, -⟩ := sp_nodup pn
  have cx1 := pl.cx.frame (s' := up s b ⟨some iv, iv.hi, iv.lo, none, none, true⟩) (fun y hy => up_ne fun e => nb (e ▸ cD y hy)) (up_ne fun e => nb (e ▸ lk.hdm))
  have cx2 := cx1.set (o' := some b) nC
  have ep : (Cx.fr c dN p o).blk dm = p.b := rfl
  have ed : (Cx.fr c dN p o).dir = dN := rfl
  rw [ep, ed] at cx2
  generalize hs2 : up (up s b ⟨some iv, iv.hi, iv.lo, none, none, true⟩) p.b (setC (up s b ⟨some iv, iv.hi, iv.lo, none, none, true⟩ p.b) dN (some b)) = s2 at *
  have nbp : b ≠ p.b := fun e => nb (e ▸ pD)
  have sb : s2 b = ⟨some iv, iv.hi, iv.lo, none, none, true⟩ := by rw [← hs2, up_ne nbp, up_same]
  let n : Nd := ⟨b, iv, iv.hi, iv.lo, true⟩
  have rt : RepT s2 (some b) (.nd .lf n .lf) := by
    rw [nd_mk]
    refine (RepT.mk_iff (by decide)).2 ⟨rfl, ?_, ?_, ?_⟩
    · show Hd (s2 b) n; rw [sb]; exact ⟨rfl, rfl, rfl, rfl⟩
    · show RepT s2 (ch (s2 b) 0) .lf; rw [sb]; exact RepT.lf
    · show RepT s2 (ch (s2 b) (1 - 0)) .lf; rw [sb]; exact RepT.lf
  have pl2 : Plc s2 dm ((Cx.fr c dN p o).pre.map bx ++ [(b, iv)] ++ (Cx.fr c dN p o).post.map bx) (.fr c dN p o) (.nd .lf n .lf) := ⟨cx2, rt, by rw [plug_map]; rfl⟩
  have eLb : (Cx.fr c dN p o).pre.map bx ++ (Cx.fr c dN p o).post.map bx = Lb := by
    have := pl.eq; rw [plug_map] at this; simpa [CT.nds] using this
  have lk2 : Lok (b :: D) dm ((Cx.fr c dN p o).pre.map bx ++ [(b, iv)] ++ (Cx.fr c dN p o).post.map bx) := by
    refine ⟨List.mem_cons_of_mem _ lk.hdm, fun e he => ?_, ?_, ?_⟩
    · simp only [List.mem_append, List.mem_singleton] at he
      rcases he with (he | rfl) | he
      · exact List.mem_cons_of_mem _ (lk.hD e (by rw [← eLb]; exact List.mem_append_left _ he))
      · exact List.mem_cons_self
      · exact List.mem_cons_of_mem _ (lk.hD e (by rw [← eLb]; exact List.mem_append_right _ he))
    · have nd := lk.nd
      rw [← eLb] at nd
      have hb : b ∉ ((Cx.fr c dN p o).pre.map bx ++ (Cx.fr c dN p o).post.map bx).map Prod.fst := fun hm => by
        rw [eLb] at hm
        obtain ⟨e, he, rfl⟩ := List.mem_map.1 hm
        exact nb (lk.hD e he)
      have hdb : dm ≠ b := fun e => nb (e ▸ lk.hdm)
      have p : (dm :: ((Cx.fr c dN p o).pre.map bx ++ [(b, iv)] ++ (Cx.fr c dN p o).post.map bx).map Prod.fst).Perm (b :: dm :: ((Cx.fr c dN p o).pre.map bx ++ (Cx.fr c dN p o).post.map bx).map Prod.fst) := by
        rw [List.map_append, List.map_append, List.map_append, List.append_assoc]
        refine (List.Perm.cons dm ?_).trans (List.Perm.swap _ _ _)
        exact List.perm_middle
      refine p.nodup_iff.2 (List.nodup_cons.2 ⟨?_, nd⟩)
      simp only [List.mem_cons, not_or]
      exact ⟨Ne.symm hdb, hb⟩
    · have so := lk.so
      rw [← eLb, List.map_append] at so
      obtain ⟨s1, s3, s4⟩ := List.pairwise_append.1 so
      rw [List.map_append, List.map_append]
      refine List.pairwise_append.2 ⟨List.pairwise_append.2 ⟨s1, List.pairwise_singleton _ _, fun x hx y hy => ?_⟩, s3, fun x hx y hy => ?_⟩
      · simp only [List.map_cons, List.map_nil, List.mem_singleton] at hy
        obtain ⟨e, he, rfl⟩ := List.mem_map.1 hx
        obtain ⟨q, hq, rfl⟩ := List.mem_map.1 he
        rw [hy]; exact pre q hq
      · rcases List.mem_append.1 hx with hx | hx
        · exact s4 x hx y hy
        · simp only [List.map_cons, List.map_nil, List.mem_singleton] at hx
          obtain ⟨e, he, rfl⟩ := List.mem_map.1 hy
          obtain ⟨q, hq, rfl⟩ := List.mem_map.1 he
          rw [hx]; exact post q hq
  have bn2 : BndT (.nd .lf n .lf) := ⟨fun x hx => by
    have : x = iv := by simpa [CT.xs, CT.nds, n] using hx
    rw [this]; exact ⟨Int.le_refl _, Int.le_refl _⟩, trivial, trivial⟩
  have cbn2 : (Cx.fr c dN p o).Bnd (CT.nd .lf n .lf).xs := Cx.Bnd.add cbn ex
  have fin : ∀ {w' : World} {s' : St} {c' : Cx} {t' : CT} {K' : Nat}, WS w0 w' tb D0 (b :: D) s' o0 m (num + 1) iv → Plc s' dm ((Cx.fr c dN p o).pre.map bx ++ [(b, iv)] ++ (Cx.fr c dN p o).post.map bx) c' t' → t'.RB K' → c'.RB t'.red K' → BndT t' → c'.Bnd t'.xs → t'.blk ≠ none → F40_J6 k (ta tb) ⟨dm, 0, none⟩ w' := fun h' pl' r1 r2 b1 b2 ne => add_fin h' lk2 pl' r1 r2 b1 b2 ne fun w'' s'' T h'' rt'' rd'' rb'' bn'' eq'' => by
    have e1 : T.bls = ((Cx.fr c dN p o).pre.map bx ++ [(b, iv)] ++ (Cx.fr c dN p o).post.map bx).map Prod.fst := by rw [← eq'', List.map_map]; rfl
    have e2 : T.xs = ((Cx.fr c dN p o).pre.map bx ++ [(b, iv)] ++ (Cx.fr c dN p o).post.map bx).map Prod.snd := by rw [← eq'', List.map_map]; rfl
    refine hfin w'' (b :: D) s'' T h'' (fun y hy => ?_) rt'' rd'' rb'' bn'' ?_ ?_ ?_
    · rw [e1] at hy
      obtain ⟨e, he, rfl⟩ := List.mem_map.1 hy
      exact lk2.hD e he
    · rw [e1]; exact (List.nodup_cons.1 lk2.nd).2
    · rw [e2, ← eL, ← eLb, List.map_append, List.map_append, List.map_append, List.append_assoc]
      exact List.perm_middle
    · rw [e2]; exact lk2.so
  have rbl : ∀ n' : Nd, n'.red = true → (CT.nd .lf n' .lf).RB 0 := fun n' hn => by rw [nd_mk, CT.mk_RB_red hn]; exact ⟨rfl, rfl, rfl, rfl⟩
  have nDb : ∀ {s' : St} {c' : Cx} {t' : CT}, Plc s' dm ((Cx.fr c dN p o).pre.map bx ++ [(b, iv)] ++ (Cx.fr c dN p o).post.map bx) c' t' → ∀ n' ∈ t'.nds, n'.b = b → n'.x = iv → (s' b).x = some iv := fun pl' n' hn' e1 e2 => by
    have := (pl'.rt.2 n' hn').1
    rw [e1, e2] at this; exact this
  refine add_node (n := n) h3 lk2 pl2 (rbl n rfl) (crb.black) bn2 cbn2 ex rfl hd2 hl2 (fun hp1 hn => ?_) (fun hno w' s' n' h' pl' e1 e2 e3 ex' bn' => ?_) (fun hn c2 g0 p0 o2 o1 ec hp1 w' s' n' g' p' h' pl' e1 e2 e3 ex' bn' e4 e5 e6 e7 e8 exp rb' bd' => ?_) (fun hn c2 g0 p0 o2 o1 ec hp1 w' s' g' p' n' B C eBC b0 b1 h' pl' e1 e2 e3 e4 e5 e6 e7 ex' rb' crb' bn' bd' => ?_)
  · have au := g.2 hp1
    have vo := g.1
    cases c with
    | top => exact au.elim
    | fr c2 d2 g0 o2 => exact ⟨c2, d2, g0, o2, dN, p, o, rfl, au.1, au.2, vo.1, vo.2.1, vo.2.2, rfl⟩
  · refine J5 (x := iv) h' List.mem_cons_self (nDb pl' n' (by simp [CT.nds]) e1 e2) hd2 (fun _ => fin h' pl' (rbl n' (by rw [e3])) ?_ bn' (by rw [xs_root (n := n) (n' := n') e2]; exact cbn2) (by simp [CT.blk])) fun e => absurd rfl e
    exact Cx.RB.lift crb.black (by show (_ && n'.red) = false; rw [e3]; exact hno)
  · refine J5 (x := iv) h' List.mem_cons_self (nDb pl' n' (by simp [CT.nds]) e1 e2) hd2 (fun _ => fin h' pl' (rbl n' e3) ?_ bn' bd' (by simp [CT.blk])) fun e => absurd rfl e
    show Cx.RB _ n'.red 0
    rw [e3]; exact rb'
  · refine J5 (x := iv) h' List.mem_cons_self (nDb pl' n' ?_ e5 e6) hd2 (fun _ => fin h' pl' rb' (by rw [CT.mk_red, e7]; exact crb') bn' bd' (by rw [CT.mk_blk]; simp)) fun e => absurd rfl e
    rw [(CT.mk_nds _ _ _ _).mem_iff]; exact List.mem_cons_self
end
end Go.Proofs.Ythapmkjmfkmnoaa.E
