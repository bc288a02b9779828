/-
  Interval trees: adjustRanges: all ends are set anew.
-/
import Derived.Test.YthapmkjmfkmnoaaAtK
namespace Go.Proofs.Ythapmkjmfkmnoaa.E
open Go
set_option linter.unusedSimpArgs false
set_option linter.unusedVariables false
set_option maxRecDepth 100000
set_option maxHeartbeats 8000000

section
variable {w : World} {D : List Nat} {s : St} {k : Value → W}
theorem Fine.ofR {l r : CT} {n : Nd} (hR : RepT s (some n.b) (.nd l n r)) (hn : (CT.nd l n r).bls.Nodup) (hD : ∀ b ∈ (CT.nd l n r).bls, b ∈ D) : Fine D s n.b n.x := by
  rw [nd_mk] at hR hn hD
  obtain ⟨-, hh, hl, hr⟩ := (RepT.mk_iff (by decide)).1 hR
  have np := (CT.mk_bls 0 l r n).nodup_iff.1 hn
  refine Fine.of (hD _ (mk_mem.2 (.inl rfl))) hh.1 fun e he a ha => ?_
  have : e = 0 ∨ e = 1 := by omega
  rcases this with rfl | rfl
  · have hm := blk_mem (hl.blk.symm.trans ha)
    exact ⟨hD a (mk_mem.2 (.inr (.inl hm))), fun e => (List.nodup_cons.1 np).1 (e ▸ List.mem_append_left _ hm)⟩
  · have hm := blk_mem (hr.blk.symm.trans ha)
    exact ⟨hD a (mk_mem.2 (.inr (.inr hm))), fun e => (List.nodup_cons.1 np).1 (e ▸ List.mem_append_right _ hm)⟩
/-- The same tree, but for its ends. -/
def Same (t t' : CT) : Prop := t'.nds.map (fun n => (n.b, n.x, n.red)) = t.nds.map (fun n => (n.b, n.x, n.red)) ∧ t'.sh = t.sh ∧ t'.red = t.red ∧ ∀ N, t.RB N → t'.RB N
theorem Same.bls {t t' : CT} (h : Same t t') : t'.bls = t.bls := by
  have := congrArg (List.map Prod.fst) h.1
  rw [List.map_map, List.map_map] at this; exact this
theorem Same.xs {t t' : CT} (h : Same t t') : t'.xs = t.xs := by
  have := congrArg (List.map fun p => p.2.1) h.1
  rw [List.map_map, List.map_map] at this; exact this
theorem Same.refl (t : CT) : Same t t := ⟨rfl, rfl, rfl, fun _ => id⟩
theorem Same.nd {l l' r r' : CT} {n n' : Nd} (hl : Same l l') (hr : Same r r') (hb : n'.b = n.b) (hx : n'.x = n.x) (hd : n'.red = n.red) : Same (.nd l n r) (.nd l' n' r') := by
  refine ⟨?_, ?_, hd, fun N hN => ?_⟩
  · simp only [CT.nds, List.map_append, List.map_cons, hl.1, hr.1, hb, hx, hd]
  · simp only [CT.sh, hl.2.1, hr.2.1, hb]
  · cases hc : n.red with
    | true =>
      rw [nd_mk, CT.mk_RB_red hc] at hN
      rw [nd_mk, CT.mk_RB_red (by rw [hd, hc])]
      exact ⟨hl.2.2.2 _ hN.1, hr.2.2.2 _ hN.2.1, by rw [hl.2.2.1]; exact hN.2.2.1, by rw [hr.2.2.1]; exact hN.2.2.2⟩
    | false =>
      rw [nd_mk, CT.mk_RB_black hc] at hN
      obtain ⟨q, e, h1, h2⟩ := hN
      rw [nd_mk, CT.mk_RB_black (by rw [hd, hc])]
      exact ⟨q, e, hl.2.2.2 _ h1, hr.2.2.2 _ h2⟩
/-- A child is set anew. -/
theorem F42_spec : ∀ (t : CT) {w : World} {s : St} {k : Value → W} {b : Nat}, MS w D s → RepT s (some b) t → t.bls.Nodup → (∀ b ∈ t.bls, b ∈ D) →
    (∀ w' s' t', MS w' D s' → RepT s' (some b) t' → Same t t' → BndT t' → (∀ y, y ∉ t.bls → s' y = s y) → Fr (fun b => b ∈ t.bls) w w' → k (.tuple #[]) w') → F42 k (some ⟨b, 0, none⟩) w
  | .lf, _, _, _, _, _, hR, _, _, _ => hR.1.elim
  | .nd l n r, w, s, k, b, hM, hR, hn, hD, hk => by
    have eb : b = n.b := by have := hR.blk; cases this; rfl
    subst eb
    have nD : n.b ∈ D := hD _ (blk_mem rfl)
    have hR0 := hR
    rw [nd_mk] at hR
    obtain ⟨-, hh, hl, hr⟩ := (RepT.mk_iff (by decide)).1 hR
    have hl : RepT s (ch (s n.b) 0) l := hl
    have hr : RepT s (ch (s n.b) 1) r := hr
    have np := (CT.mk_bls 0 l r n).nodup_iff.1 hn
    obtain ⟨np1, np2⟩ := List.nodup_cons.1 np
    obtain ⟨nl, nr, nlr⟩ := List.nodup_append.1 np2
    have nbl : n.b ∉ l.bls := fun h => np1 (List.mem_append_left _ h)
    have nbr : n.b ∉ r.bls := fun h => np1 (List.mem_append_right _ h)
    have mem : ∀ y, y ∈ (CT.nd l n r).bls ↔ y = n.b ∨ y ∈ l.bls ∨ y ∈ r.bls := fun y => by rw [nd_mk]; exact mk_mem
    -- the node itself, at last
    have last : ∀ (ag : Option Addr → Int → W) (w3 : World) (s3 : St) (l' r' : CT), MS w3 D s3 → Hd (s3 n.b) n → RepT s3 (ch (s3 n.b) 0) l' → RepT s3 (ch (s3 n.b) 1) r' → Same l l' → Same r r' → BndT l' → BndT r' → (∀ y, y ∉ (CT.nd l n r).bls → s3 y = s y) → Fr (fun b => b ∈ (CT.nd l n r).bls) w w3 → F42_L1 k ag (some ⟨n.b, 0, none⟩) 2 w3 := fun ag w3 s3 l' r' m3 h3 rl rr sl sr bl br oth fr => by
      unfold F42_L1
      rw [decide_eq_false (by decide), BIf_false]
      have RT : RepT s3 (some n.b) (.nd l' n r') := by rw [nd_mk]; exact (RepT.mk_iff (by decide)).2 ⟨rfl, h3, rl, rr⟩
      have eB : (CT.nd l' n r').bls = (CT.nd l n r).bls := (Same.nd sl sr rfl rfl rfl).bls
      have fine := Fine.ofR RT (by rw [eB]; exact hn) (by rw [eB]; exact hD)
      refine F52_call ?_
      unfold F52
      refine mn_call m3 fine fun w4 m4 f4 => mx_call m4 fine.mn fun w5 m5 f5 => back0 ?_
      have al := (alike_mn s3 n.b n.x).trans (alike_mx (setMn s3 n.b n.x) n.b n.x)
      have ne : ∀ y, y ≠ n.b → setMx (setMn s3 n.b n.x) n.b n.x y = s3 y := fun y hy => by rw [setMx_ne hy, setMn_ne hy]
      have chs : ∀ e, ch (setMx (setMn s3 n.b n.x) n.b n.x n.b) e = ch (s3 n.b) e := fun e => by rw [ch_mx, ch_mn]
      have hh5 : Hd (setMx (setMn s3 n.b n.x) n.b n.x n.b) { n with mx := (setMx (setMn s3 n.b n.x) n.b n.x n.b).mx, mn := (setMx (setMn s3 n.b n.x) n.b n.x n.b).mn } := ⟨by rw [(al n.b).2.2.1]; exact h3.1, rfl, rfl, by rw [(al n.b).2.2.2]; exact h3.2.2.2⟩
      have R5 : RepT (setMx (setMn s3 n.b n.x) n.b n.x) (some n.b) (.nd l' { n with mx := (setMx (setMn s3 n.b n.x) n.b n.x n.b).mx, mn := (setMx (setMn s3 n.b n.x) n.b n.x n.b).mn } r') := by
        rw [nd_mk]
        refine (RepT.mk_iff (by decide)).2 ⟨rfl, hh5, ?_, ?_⟩
        · show RepT _ (ch (setMx (setMn s3 n.b n.x) n.b n.x n.b) 0) l'
          rw [chs]; exact rl.frame fun y hy => ne y fun e => nbl (by rw [← sl.bls]; exact e ▸ hy)
        · show RepT _ (ch (setMx (setMn s3 n.b n.x) n.b n.x n.b) 1) r'
          rw [chs]; exact rr.frame fun y hy => ne y fun e => nbr (by rw [← sr.bls]; exact e ▸ hy)
      have nds : (CT.nd l' n r').sh.ino.Nodup := by rw [CT.sh_ino, eB]; exact hn
      have B5 := adj_bnd (x := n.x) RT.1 nds h3.1 ((bnd_iff rl.2).2 bl) ((bnd_iff rr.2).2 br)
      have eS : (CT.nd l' { n with mx := (setMx (setMn s3 n.b n.x) n.b n.x n.b).mx, mn := (setMx (setMn s3 n.b n.x) n.b n.x n.b).mn } r').sh = Tr.nd l'.sh n.b r'.sh := rfl
      refine hk w5 _ _ m5 R5 (Same.nd sl sr rfl rfl rfl) ((bnd_iff R5.2).1 (by rw [eS]; exact B5)) (fun y hy => ?_) ?_
      · rw [ne y fun e => hy ((mem y).2 (.inl e)), oth y hy]
      · exact (fr.trans f4 fun y e => .inl ((mem y).2 (.inl e))).trans f5 fun y e => .inl ((mem y).2 (.inl e))
    have lD : ∀ b ∈ l.bls, b ∈ D := fun b hb => hD b ((mem b).2 (.inr (.inl hb)))
    have rD : ∀ b ∈ r.bls, b ∈ D := fun b hb => hD b ((mem b).2 (.inr (.inr hb)))
    unfold F42
    refine F42_L1_rule (I := fun nn i w' => nn = some ⟨n.b, 0, none⟩ ∧ ((i = 0 ∧ w' = w)
      ∨ (i = 1 ∧ ∃ s' l', MS w' D s' ∧ Hd (s' n.b) n ∧ RepT s' (ch (s' n.b) 0) l' ∧ RepT s' (ch (s' n.b) 1) r ∧ Same l l' ∧ BndT l' ∧ (∀ y, y ∉ (CT.nd l n r).bls → s' y = s y) ∧ Fr (fun b => b ∈ (CT.nd l n r).bls) w w')
      ∨ (i = 2 ∧ ∃ s' l' r', MS w' D s' ∧ Hd (s' n.b) n ∧ RepT s' (ch (s' n.b) 0) l' ∧ RepT s' (ch (s' n.b) 1) r' ∧ Same l l' ∧ Same r r' ∧ BndT l' ∧ BndT r' ∧ (∀ y, y ∉ (CT.nd l n r).bls → s' y = s y) ∧ Fr (fun b => b ∈ (CT.nd l n r).bls) w w')))
      (μ := fun _ i _ => 2 - i.toNat) ?_ ⟨by trivial, .inl ⟨by trivial, by trivial⟩⟩
    rintro _ _ w' ⟨rfl, h⟩
    rcases h with ⟨rfl, rfl⟩ | ⟨rfl, s', l', m', h', rl, rr, sl, bl, oth, fr⟩ | ⟨rfl, s', l', r', m', h', rl, rr, sl, sr, bl, br, oth, fr⟩
    · unfold F42_L1
      rw [decide_eq_true (by decide), BIf_true]
      simp only [NN_mk, add_mk, Nat.zero_add]
      rw [show ((0 : Int).toNat) = 0 from rfl]
      refine Req_iff.2 ⟨by decide, ld_ch (d := 0) hM nD (by decide) ?_⟩
      cases hc : ch (s n.b) 0 with
      | none =>
        rw [show (!(oA (none : Option Nat)).isNone) = false from rfl, BIf_false]
        have el : l = .lf := CT.of_blk_none (by rw [← hl.blk, hc])
        refine ⟨⟨by trivial, .inr (.inl ⟨rfl, s, l, hM, hh, hl, hr, Same.refl _, by rw [el]; trivial, fun _ _ => rfl, Fr.refl _ _⟩)⟩, ?_⟩
        decide
      | some c =>
        rw [show (!(oA (some c)).isNone) = true from rfl, BIf_true]
        refine Req_iff.2 ⟨by decide, ld_ch (d := 0) hM nD (by decide) ?_⟩
        rw [hc]
        rw [hc] at hl
        refine F42_call (F42_spec l hM hl nl lD fun w1 s1 l1 m1 r1 sl1 bl1 oth1 f1 => back0 ⟨⟨by trivial, .inr (.inl ⟨rfl, s1, l1, m1, ?_, ?_, ?_, sl1, bl1, fun y hy => oth1 y fun h => hy ((mem y).2 (.inr (.inl h))), f1.mono fun y hy => .inl ((mem y).2 (.inr (.inl hy)))⟩)⟩, ?_⟩)
        · rw [oth1 _ nbl]; exact hh
        · rw [oth1 _ nbl, hc]; exact r1
        · rw [oth1 _ nbl]; exact hr.frame fun y hy => oth1 y fun h => nlr y h y hy rfl
        · decide
    · unfold F42_L1
      rw [decide_eq_true (by decide), BIf_true]
      simp only [NN_mk, add_mk, Nat.zero_add]
      rw [show ((1 : Int).toNat) = 1 from rfl]
      refine Req_iff.2 ⟨by decide, ld_ch (d := 1) m' nD (by decide) ?_⟩
      cases hc : ch (s' n.b) 1 with
      | none =>
        rw [show (!(oA (none : Option Nat)).isNone) = false from rfl, BIf_false]
        have er : r = .lf := CT.of_blk_none (by rw [← rr.blk, hc])
        refine ⟨⟨by trivial, .inr (.inr ⟨rfl, s', l', r, m', h', rl, rr, sl, Same.refl _, bl, by rw [er]; trivial, oth, fr⟩)⟩, ?_⟩
        decide
      | some c =>
        rw [show (!(oA (some c)).isNone) = true from rfl, BIf_true]
        refine Req_iff.2 ⟨by decide, ld_ch (d := 1) m' nD (by decide) ?_⟩
        rw [hc]
        rw [hc] at rr
        refine F42_call (F42_spec r m' rr nr rD fun w1 s1 r1 m1 rr1 sr1 br1 oth1 f1 => back0 ⟨⟨by trivial, .inr (.inr ⟨rfl, s1, l', r1, m1, ?_, ?_, ?_, sl, sr1, bl, br1, fun y hy => ?_, fr.trans f1 fun y hy => .inl ((mem y).2 (.inr (.inr hy)))⟩)⟩, ?_⟩)
        · rw [oth1 _ nbr]; exact h'
        · rw [oth1 _ nbr]; exact rl.frame fun y hy => oth1 y fun h => nlr y (by rw [← sl.bls]; exact hy) y h rfl
        · rw [oth1 _ nbr, hc]; exact rr1
        · rw [oth1 y fun h => hy ((mem y).2 (.inr (.inr h))), oth y hy]
        · decide
    · exact last _ _ _ _ _ m' h' rl rr sl sr bl br oth fr
end
end Go.Proofs.Ythapmkjmfkmnoaa.E
