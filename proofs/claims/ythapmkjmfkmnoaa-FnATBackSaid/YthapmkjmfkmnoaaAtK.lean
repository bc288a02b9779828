/-
  Interval trees: add, whole.
-/
import Derived.Test.YthapmkjmfkmnoaaAtJ
namespace Go.Proofs.Ythapmkjmfkmnoaa.E
open Go
set_option linter.unusedSimpArgs false
set_option linter.unusedVariables false
set_option maxRecDepth 100000
set_option maxHeartbeats 8000000

section
variable {w0 w : World} {tb : Nat} {D0 D : List Nat} {s : St} {o0 : Option Nat} {m num : Nat} {iv : Spn} {k : Value → W} {dm : Nat} {Lb : List (Nat × Spn)} {dN lN K N : Nat} {pa gp hp : Option Addr} {L : List Spn}
  {ag : Option Addr → Value → Addr → Option Addr → Option Addr → Option Addr → Int → Int → Int → Int → Int → Int → Option Addr → W} {c : Cx} {t : CT}
def bk (n : Nd) : Nd := { n with red := false }
def rk (n : Nd) : Nd := { n with red := true }
/-- Colours flipped, in a place. -/
theorem flip_plc {a1 b1 a2 b2 : CT} {n m1 m2 : Nd} (pl : Plc s dm Lb c (.nd (.nd a1 m1 b1) n (.nd a2 m2 b2))) (lk : Lok D dm Lb) : Plc (flip s n.b m1.b m2.b) dm Lb c (.nd (.nd a1 (bk m1) b1) (rk n) (.nd a2 (bk m2) b2)) ∧ m1.b ≠ n.b ∧ m2.b ≠ n.b ∧ m2.b ≠ m1.b := by
  obtain ⟨nT, -, -⟩ := sp_nodup (pl.nodup lk)
  have np := (CT.mk_bls 0 (.nd a1 m1 b1) (.nd a2 m2 b2) n).nodup_iff.1 nT
  have mm1 : m1.b ∈ (CT.nd a1 m1 b1).bls := blk_mem rfl
  have mm2 : m2.b ∈ (CT.nd a2 m2 b2).bls := blk_mem rfl
  have n1 : m1.b ≠ n.b := fun e => (List.nodup_cons.1 np).1 (e ▸ List.mem_append_left _ mm1)
  have n2 : m2.b ≠ n.b := fun e => (List.nodup_cons.1 np).1 (e ▸ List.mem_append_right _ mm2)
  have n3 : m2.b ≠ m1.b := fun e => (List.nodup_append.1 (List.nodup_cons.1 np).2).2.2 m1.b mm1 m2.b mm2 e.symm
  have hh : Hd (s n.b) n := pl.rt.2 n (by simp [CT.nds])
  have h1 : Hd (s m1.b) m1 := pl.rt.2 m1 (by simp [CT.nds])
  have h2 : Hd (s m2.b) m2 := pl.rt.2 m2 (by simp [CT.nds])
  have p1 : Plc (up s n.b { s n.b with red := true }) dm Lb c (.nd (.nd a1 m1 b1) (rk n) (.nd a2 m2 b2)) := pl.root lk (fun b hb => up_ne hb) (by rw [up_same]) (by rw [up_same]) rfl rfl (by rw [up_same]; exact ⟨hh.1, hh.2.1, hh.2.2.1, rfl⟩)
  rw [nd_mk] at p1
  have p2 := p1.down (by decide)
  have p3 : Plc (up (up s n.b { s n.b with red := true }) m1.b { s m1.b with red := false }) dm Lb _ (.nd a1 (bk m1) b1) := p2.root lk (fun b hb => up_ne hb) (by rw [up_same, up_ne n1]) (by rw [up_same, up_ne n1]) rfl rfl (by rw [up_same]; exact ⟨h1.1, h1.2.1, h1.2.2.1, rfl⟩)
  have p4 := p3.up
  have e4 : CT.mk 0 (.nd a1 (bk m1) b1) (rk n) (.nd a2 m2 b2) = CT.mk 1 (.nd a2 m2 b2) (rk n) (.nd a1 (bk m1) b1) := rfl
  rw [e4] at p4
  have p5 := p4.down (by decide)
  have p6 : Plc (flip s n.b m1.b m2.b) dm Lb _ (.nd a2 (bk m2) b2) := p5.root lk (fun b hb => up_ne hb) (by unfold flip; rw [up_same, up_ne n3, up_ne n2]) (by unfold flip; rw [up_same, up_ne n3, up_ne n2]) rfl rfl (by unfold flip; rw [up_same]; exact ⟨h2.1, h2.2.1, h2.2.2.1, rfl⟩)
  exact ⟨p6.up, n1, n2, n3⟩
theorem add_step (hL : ∀ x ∈ L, x.id ≠ iv.id) (hfin : Fin w0 tb D0 m num iv L k) (hnum : num < 1000000000)
    (hag : ∀ tree v dmA pa gp node dir last ol id mx lo hp w', ∀ N' < N, AL w0 tb D0 m num iv L N' tree v dmA pa gp node dir last ol id mx lo hp w' → ag tree v dmA pa gp node dir last ol id mx lo hp w')
    (h : AL0 w0 tb D0 m num iv L N D s o0 dm Lb c t dN lN K pa gp hp w) :
    F40_L1 k ag (ta tb) iv.v ⟨dm, 0, none⟩ pa gp (oA t.blk) ((dN : Nat) : Int) ((lN : Nat) : Int) ((1 - lN : Nat) : Int) ((iv.id : Nat) : Int) iv.hi iv.lo hp w := by
  cases t with
  | lf =>
    cases c with
    | top => exact absurd rfl h.g.2.2.2.2.1
    | fr c d p o => exact add_leaf hfin hnum h
  | nd l n r =>
    obtain ⟨ws, lk, pl, pre, post, ex, rb, crb, bn, cbn, eL, hd2, hl2, g⟩ := h
    have hid : n.x.id ≠ iv.id := hL n.x (by
      have := pl.xs
      rw [eL] at this
      rw [← this]
      unfold CT.xs
      rw [Cx.plug_nds]
      exact List.mem_map.2 ⟨n, by simp [CT.nds], rfl⟩)
    have hpa := g.par
    have rt := pl.rt
    rw [nd_mk] at rt
    obtain ⟨-, hh, rl, rr⟩ := (RepT.mk_iff (by decide)).1 rt
    have el : ch (s n.b) 0 = l.blk := rl.blk
    have er : ch (s n.b) 1 = r.blk := rr.blk
    have nD : n.b ∈ D := pl.inD lk _ (.inl (by rw [nd_mk]; exact mk_mem.2 (.inl rfl)))
    have lD : ∀ b, l.blk = some b → b ∈ D := fun b hb => pl.inD lk _ (.inl (by rw [nd_mk]; exact mk_mem.2 (.inr (.inl (blk_mem hb)))))
    have rD : ∀ b, r.blk = some b → b ∈ D := fun b hb => pl.inD lk _ (.inl (by rw [nd_mk]; exact mk_mem.2 (.inr (.inr (blk_mem hb)))))
    have redl : isRed s l.blk = l.red := by rw [← el]; exact rl.red
    have redr : isRed s r.blk = r.red := by rw [← er]; exact rr.red
    -- nothing is flipped
    have noflip : (l.red && r.red) = false → F40_J1 k ag (ta tb) iv.v ⟨dm, 0, none⟩ pa gp (some ⟨n.b, 0, none⟩) ((dN : Nat) : Int) ((lN : Nat) : Int) ((1 - lN : Nat) : Int) ((iv.id : Nat) : Int) iv.hi iv.lo hp w := fun hf => by
      have npar : n.red = true → c.pred = false := fun hn => by
        cases c with
        | top => rfl
        | fr c1 d p o =>
          cases hp : p.red with
          | false => exact hp
          | true =>
            have := (crb.2.1 hp).1
            rw [show (CT.nd l n r).red = n.red from rfl, hn] at this
            cases this
      refine add_mid hag ws lk pl pre post ex rb crb.black bn cbn eL hd2 hl2 hid hpa (.inr ⟨hf, npar⟩) ?_
      cases c with
      | top =>
        obtain ⟨g1, g2, g3, g4, g5, g6⟩ := g
        refine .inr (.inr ⟨fun _ => ⟨g2, g3, fun hn => ?_⟩, fun _ _ _ _ e => (by cases e), g6⟩)
        have g4 : n.red = false := g4
        rw [g4] at hn; cases hn
      | fr c1 d p o =>
        obtain ⟨g1, rfl, g⟩ := g
        rcases g with ⟨v, j1, j2, hN⟩ | ⟨q1, q2, hN⟩ | ⟨q1, q2, sd, x, n', y, e, hsd, q3, q4, q5, hN⟩
        · refine .inr (.inr ⟨fun e => (by cases e), fun c1' d' p' o' e => ?_, hN⟩)
          cases e
          refine ⟨rfl, v, fun hp hn => ?_, fun hp hn => .inr (j1 hp hn)⟩
          have := npar hn
          rw [show (Cx.fr c1 dN p o).pred = p.red from rfl, hp] at this
          cases this
        · exact .inl ⟨p, dN, o, c1, rfl, rfl, q1, q2, hN⟩
        · have en : n' = n := by
            unfold CT.mk at e
            split at e <;> (injection e with _ e2 _; exact e2.symm)
          subst en
          exact .inr (.inl ⟨p, dN, o, c1, sd, x, y, rfl, rfl, q1, q2, q3, e, q4, q5, hN⟩)
    -- colours are flipped
    have doflip : l.red = true → r.red = true → F40_J8 k ag (ta tb) iv.v ⟨dm, 0, none⟩ pa gp (some ⟨n.b, 0, none⟩) ((dN : Nat) : Int) ((lN : Nat) : Int) ((1 - lN : Nat) : Int) ((iv.id : Nat) : Int) iv.hi iv.lo hp true w := fun h1 h2 => by
      cases l with
      | lf => cases h1
      | nd a1 m1 b1 =>
      cases r with
      | lf => cases h2
      | nd a2 m2 b2 =>
      have h1 : m1.red = true := h1
      have h2 : m2.red = true := h2
      obtain ⟨pl', n1, n2, n3⟩ := flip_plc pl lk
      refine J8t ws nD (lD _ rfl) (rD _ rfl) el er n1 n2 n3 fun w' h' => ?_
      have nb : n.red = false := by
        cases hn : n.red with
        | false => rfl
        | true =>
          rw [nd_mk, CT.mk_RB_red hn] at rb
          have := rb.2.2.1
          rw [show (CT.nd a1 m1 b1).red = m1.red from rfl, h1] at this
          cases this
      rw [nd_mk, CT.mk_RB_black nb] at rb
      obtain ⟨K', rfl, rb1, rb2⟩ := rb
      rw [nd_mk, CT.mk_RB_red h1] at rb1
      rw [nd_mk, CT.mk_RB_red h2] at rb2
      have fb : Bt (.nd a1 (bk m1) b1) ∧ Bt (.nd a2 (bk m2) b2) := ⟨⟨rfl, rb1.2.2.1, rb1.2.2.2⟩, ⟨rfl, rb2.2.2.1, rb2.2.2.2⟩⟩
      have rb' : (CT.nd (.nd a1 (bk m1) b1) (rk n) (.nd a2 (bk m2) b2)).RB (K' + 1) := by
        rw [nd_mk, CT.mk_RB_red rfl]
        exact ⟨by rw [nd_mk, CT.mk_RB_black rfl]; exact ⟨K', rfl, rb1.1, rb1.2.1⟩, by rw [nd_mk, CT.mk_RB_black rfl]; exact ⟨K', rfl, rb2.1, rb2.2.1⟩, rfl, rfl⟩
      have xs1 : (CT.nd a1 (bk m1) b1).xs = (CT.nd a1 m1 b1).xs := xs_root rfl
      have xs2 : (CT.nd a2 (bk m2) b2).xs = (CT.nd a2 m2 b2).xs := xs_root rfl
      have xs' : (CT.nd (.nd a1 (bk m1) b1) (rk n) (.nd a2 (bk m2) b2)).xs = (CT.nd (.nd a1 m1 b1) n (.nd a2 m2 b2)).xs := by
        unfold CT.xs
        simp [CT.nds, bk, rk]
      have len' : (CT.nd (.nd a1 (bk m1) b1) (rk n) (.nd a2 (bk m2) b2)).nds.length = (CT.nd (.nd a1 m1 b1) n (.nd a2 m2 b2)).nds.length := by
        have := congrArg List.length xs'
        unfold CT.xs at this
        simpa only [List.length_map] using this
      have bn' : BndT (.nd (.nd a1 (bk m1) b1) (rk n) (.nd a2 (bk m2) b2)) := by
        obtain ⟨q1, q2, q3⟩ := bn
        exact ⟨fun x hx => q1 x (by rw [← xs']; exact hx), bnd_root q2 rfl (Int.le_refl _) (Int.le_refl _), bnd_root q3 rfl (Int.le_refl _) (Int.le_refl _)⟩
      refine add_mid (n := rk n) hag h' lk pl' pre post ex rb' crb.black bn' (by rw [xs']; exact cbn) eL hd2 hl2 hid hpa (.inl ⟨rfl, fb⟩) (.inr (.inr ?_))
      rw [len']
      cases c with
      | top =>
        obtain ⟨g1, g2, g3, g4, g5, g6⟩ := g
        exact ⟨fun _ => ⟨g2, g3, fun _ => fb⟩, fun _ _ _ _ e => (by cases e), g6⟩
      | fr c1 d p o =>
        obtain ⟨g1, rfl, g⟩ := g
        rcases g with ⟨v, j1, j2, hN⟩ | ⟨q1, q2, hN⟩ | ⟨q1, q2, sd, x, n', y, e, hsd, q3, q4, q5, hN⟩
        · refine ⟨fun e => (by cases e), fun c1' d' p' o' e => ?_, hN⟩
          cases e
          refine ⟨rfl, v, fun hp hn => ?_, fun hp hn => .inl fb⟩
          rcases j2 hp with j | j
          · have := j.2.1
            rw [show (CT.nd a1 m1 b1).red = m1.red from rfl, h1] at this
            cases this
          · exact j
        · have := q2.2.1
          rw [show (CT.nd a1 m1 b1).red = m1.red from rfl, h1] at this
          cases this
        · have en : n' = n := by
            unfold CT.mk at e
            split at e <;> (injection e with _ e2 _; exact e2.symm)
          subst en
          rw [nb] at q3; cases q3
    unfold F40_L1
    rw [show oA (CT.nd l n r).blk = some ⟨n.b, 0, none⟩ from rfl, show (some (⟨n.b, 0, none⟩ : Addr)).isNone = false from rfl, BIf_false]
    simp only [NN_mk, add_mk, Nat.zero_add]
    rw [show ((0 : Int).toNat) = 0 from rfl, show ((1 : Int).toNat) = 1 from rfl]
    refine Req_iff.2 ⟨by decide, ld_ch (d := 0) ws.ms nD (by decide) ?_⟩
    rw [el]
    refine F46_call (F46_spec ws.ms lD (back_bool ?_))
    rw [redl]
    cases hl : l.red with
    | false =>
      rw [BIf_false]
      exact J8f (noflip (by rw [hl]; rfl))
    | true =>
      rw [BIf_true]
      refine Req_iff.2 ⟨by decide, ld_ch (d := 1) ws.ms nD (by decide) ?_⟩
      rw [er]
      refine F46_call (F46_spec ws.ms rD (back_bool ?_))
      rw [redr]
      cases hr : r.red with
      | false => exact J8f (noflip (by rw [hl, hr]; rfl))
      | true => exact doflip hl hr
/-- The loop of add. -/
theorem add_loop (hL : ∀ x ∈ L, x.id ≠ iv.id) (hfin : Fin w0 tb D0 m num iv L k) (hnum : num < 1000000000)
    (h : AL0 w0 tb D0 m num iv L N D s o0 dm Lb c t dN lN K pa gp hp w) :
    Loop [.ptr, .any, .addr, .ptr, .ptr, .ptr, (.int .i64), (.int .i64), (.int .i64), (.int .u64), (.int .i64), (.int .i64), .ptr] (F40_L1 k) (ta tb) iv.v ⟨dm, 0, none⟩ pa gp (oA t.blk) ((dN : Nat) : Int) ((lN : Nat) : Int) ((1 - lN : Nat) : Int) ((iv.id : Nat) : Int) iv.hi iv.lo hp w := by
  refine F40_L1_rule (I := fun tree v dmA pa gp node dir last ol id mx lo hp w => ∃ N, AL w0 tb D0 m num iv L N tree v dmA pa gp node dir last ol id mx lo hp w)
    (μ := fun tree v dmA pa gp node dir last ol id mx lo hp w => lst fun N => AL w0 tb D0 m num iv L N tree v dmA pa gp node dir last ol id mx lo hp w) ?_ ⟨N, D, s, o0, dm, Lb, c, t, dN, lN, K, rfl, rfl, rfl, rfl, rfl, rfl, rfl, rfl, rfl, rfl, h⟩
  intro tree v dmA pa gp node dir last ol id mx lo hp w hI
  have hI0 := hI
  obtain ⟨h0, hmin⟩ := lst_spec hI
  generalize hN0 : (lst fun N => AL w0 tb D0 m num iv L N tree v dmA pa gp node dir last ol id mx lo hp w) = N0 at *
  obtain ⟨D, s, o0, dm, Lb, c, t, dN, lN, K, rfl, rfl, rfl, rfl, rfl, rfl, rfl, rfl, rfl, rfl, h⟩ := h0
  refine add_step hL hfin hnum (fun tree v dmA pa gp node dir last ol id mx lo hp w' N' hN' hA => ⟨⟨N', hA⟩, ?_⟩) h
  exact Nat.lt_of_le_of_lt ((lst_spec ⟨N', hA⟩).2 N' hA) hN'
end
/-- An interval tree at rest. -/
structure AT (w : World) (tb m : Nat) (D : List Nat) (s : St) (T : CT) : Prop where
  ms : MS w D s
  tr : Blk w tb 74 (tcells T.blk m T.nds.length)
  hD : ∀ b ∈ T.bls, b ∈ D
  rt : RepT s T.blk T
  rd : T.red = false
  rb : ∃ N, T.RB N
  nd : T.bls.Nodup
  so : T.xs.Pairwise klt
section
variable {w : World} {tb : Nat} {D : List Nat} {s : St} {m : Nat} {iv : Spn} {k : Value → W} {T : CT}
theorem xs_len (T : CT) : T.xs.length = T.nds.length := by unfold CT.xs; exact List.length_map _
/-- The dummy is reset, and copied. -/
theorem dummy_copy {w' : World} {o : Option Nat} {num : Nat} {K : Nat → W} (hT : Blk w tb 74 (tcells o m num)) (ms : MS w D s) (sp : SpOk w iv)
    (hk : ∀ w' dm, dm ∉ D → w.heap.size ≤ dm → WS w w' tb D (dm :: D) (up s dm ⟨none, 0, 0, none, none, false⟩) o m num iv → K dm w') :
    CallT Go.Proofs.Try.prog 39 [.pointer (ta tb)] (.tup []) (NN (ta tb) fun a14 =>
      LoadT .any ((a14.add 3).add 0) fun v15 =>
      LoadT (.int .i64) ((a14.add 3).add 1) fun x16 =>
      LoadT (.int .i64) ((a14.add 3).add 2) fun x17 =>
      LoadT .ptr ((a14.add 3).add 3) fun p18 =>
      LoadT .ptr ((a14.add 3).add 4) fun p19 =>
      LoadT .bool ((a14.add 3).add 5) fun b20 =>
      LoadT (.int .u64) ((a14.add 3).add 6) fun x21 =>
      New [.nilIface, .int .i64 0, .int .i64 0, .pointer none, .pointer none, .bool false, .int .u64 0] 71 fun n22 =>
      Store1 ⟨n22, 0, none⟩ v15 <|
      Store1 ⟨n22, 1, none⟩ (.int .i64 x16) <|
      Store1 ⟨n22, 2, none⟩ (.int .i64 x17) <|
      Store1 ⟨n22, 3, none⟩ (.pointer p18) <|
      Store1 ⟨n22, 4, none⟩ (.pointer p19) <|
      Store1 ⟨n22, 5, none⟩ (.bool b20) <|
      Store1 ⟨n22, 6, none⟩ (.int .u64 x21) <| K n22) w := by
  refine F39_call ?_
  unfold F39
  refine drw_intro fun w1 f1 z1 => ?_
  have b1 := hT.fr f1 id
  simp only [NN_mk, add_mk, Nat.zero_add]
  rw [show ((0 : Int).toNat) = 0 from rfl, show ((1 : Int).toNat) = 1 from rfl]
  refine Req_iff.2 ⟨by decide, store_intro (i := 6) b1 (by simp [tcells]) rfl fun w2 b2 f2 z2 => ?_⟩
  refine Req_iff.2 ⟨by decide, store_intro (i := 7) b2 (by simp [tcells]) rfl fun w3 b3 f3 z3 => ?_⟩
  refine store_intro (i := 8) b3 (by simp [tcells]) rfl fun w4 b4 f4 z4 => back0 ?_
  have f04 : Fr (fun x => x = tb) w w4 := (((f1.mono (S' := fun x => x = tb) fun _ h => h.elim).trans f2 fun _ h => .inl h).trans f3 fun _ h => .inl h).trans f4 fun _ h => .inl h
  have b4 : Blk w4 tb 74 (tcells o m num) := b4
  have w00 : WS w w tb D D s o m num iv := ⟨ms, hT, sp, Fr.refl _ _, fun b hb => .inl hb⟩
  have h4 : WS w w4 tb D D s o m num iv := w00.tbu b4 f04
  refine load_any (i := 3) h4.tr rfl (load_int (i := 4) h4.tr rfl (load_int (i := 5) h4.tr rfl (load_ptr (i := 6) h4.tr rfl (load_ptr (i := 7) h4.tr rfl (load_bool (i := 8) h4.tr rfl (load_int (i := 9) h4.tr rfl ?_))))))
  refine new_intro fun dm w5 e5 b5 f5 z5 => ?_
  have h5 := h4.fr0 f5
  have nD : dm ∉ D := fun hb => by have := (h4.ms dm hb).1.lt; omega
  have nt : dm ≠ tb := fun e => by have := h4.tr.lt; omega
  have sz : w.heap.size ≤ dm := by have := h4.fr.size; omega
  refine store_intro (i := 0) b5 (by simp) rfl fun w6 b6 f6 z6 => ?_
  refine store_intro (i := 1) b6 (by simp) rfl fun w7 b7 f7 z7 => ?_
  refine store_intro (i := 2) b7 (by simp) rfl fun w8 b8 f8 z8 => ?_
  refine store_intro (i := 3) b8 (by simp) rfl fun w9 b9 f9 z9 => ?_
  refine store_intro (i := 4) b9 (by simp) rfl fun w10 b10 f10 z10 => ?_
  refine store_intro (i := 5) b10 (by simp) rfl fun w11 b11 f11 z11 => ?_
  refine store_intro (i := 6) b11 (by simp) rfl fun w12 b12 f12 z12 => ?_
  have i : ∀ x, x = dm → x = dm ∨ w5.heap.size ≤ x := fun _ h => .inl h
  have f : Fr (fun x => x = dm) w5 w12 := (((((f6.trans f7 i).trans f8 i).trans f9 i).trans f10 i).trans f11 i).trans f12 i
  have n3 : ∀ b' u us, b' = dm → Blk w5 b' u us → u ≠ 2 := fun y u us e hu => by
    have hu' : Blk w5 dm u us := by rw [← e]; exact hu
    rw [(hu'.unique b5).1]; decide
  refine hk w12 dm nD sz ⟨fun y hy => ?_, h5.tr.fr f fun e => nt (Eq.symm e), h5.sp.fr f n3, h5.fr.trans f fun y e => ?_, fun y hy => ?_⟩
  · by_cases e : y = dm
    · subst e
      rw [up_same]
      exact ⟨b12, fun x hx => by cases hx⟩
    · rw [up_ne e]
      have hy' : y ∈ D := by
        rcases List.mem_cons.1 hy with h | h
        · exact absurd h e
        · exact h
      exact ⟨(h5.ms y hy').1.fr f e, fun x hx => ((h5.ms y hy').2 x hx).fr f n3⟩
  · have e : y = dm := e
    exact .inr (by omega)
  · rcases List.mem_cons.1 hy with h' | h'
    · exact .inr (by omega)
    · exact .inl h'
/-- add. -/
theorem F40_spec (h : AT w tb m D s T) (hB : BndT T) (sp : SpOk w iv) (hid : ∀ x ∈ T.xs, x.id ≠ iv.id) (hn : T.nds.length < 1000000)
    (hk : ∀ w' D' s' T', AT w' tb m D' s' T' → BndT T' → SpOk w' iv → T'.xs.Perm (iv :: T.xs) → Fr (fun b => b = tb ∨ b ∈ D) w w' → (∀ b ∈ D', b ∈ D ∨ w.heap.size ≤ b) → k (.tuple #[]) w') : F40 k (ta tb) iv.v w := by
  have hfin : Fin w tb D m T.nds.length iv T.xs k := fun w' D' s' T' ws hD rt rd rb bn nd pm so => by
    refine hk w' D' s' T' ⟨ws.ms, ?_, hD, rt, rd, rb, nd, so⟩ bn ws.sp pm ws.fr ws.dd
    have : T'.nds.length = T.nds.length + 1 := by
      have := pm.length_eq
      rw [List.length_cons, xs_len, xs_len] at this
      exact this
    rw [this]; exact ws.tr
  have wsz : WS w w tb D D s T.blk m T.nds.length iv := ⟨h.ms, h.tr, sp, Fr.refl _ _, fun b hb => .inl hb⟩
  unfold F40
  simp only [NN_mk, add_mk, Nat.zero_add]
  refine load_ptr (i := 0) h.tr rfl ?_
  cases hT : T with
  | lf =>
    subst hT
    rw [show (oA CT.lf.blk).isNone = true from rfl, BIf_true]
    rw [show (1 : Int) = ((1 : Nat) : Int) from rfl]
    refine lo_intro sp (by decide) fun w1 f1 => hi_intro (sp.fr0 f1) (by decide) fun w2 f2 => ?_
    have h2 := (wsz.fr0 f1).fr0 f2
    refine F45_call (F45_spec h2 fun w3 b nb nt hsz h3 => back_ptr ?_)
    refine store_intro (i := 0) h3.tr (by simp [tcells]) rfl fun w4 b4 f4 z4 => ?_
    have h4 : WS w w4 tb D (b :: D) (up s b ⟨some iv, iv.hi, iv.lo, none, none, true⟩) (some b) m 0 iv := h3.tbu b4 f4
    refine load_ptr (i := 0) h4.tr rfl ?_
    simp only [oA_some, NN_mk, add_mk, Nat.zero_add]
    refine st_red h4.ms List.mem_cons_self fun w5 m5 f5 z5 => ?_
    have h5 := h4.one List.mem_cons_self m5 f5
    rw [up_same, up_up] at h5
    refine load_int (i := 2) h5.tr rfl ?_
    rw [addI_u64 (by decide) (by decide)]
    refine store_intro (i := 2) h5.tr (by simp [tcells]) rfl fun w6 b6 f6 z6 => ?_
    have h6 : WS w w6 tb D (b :: D) (up s b ⟨some iv, iv.hi, iv.lo, none, none, false⟩) (some b) m 1 iv := h5.tbu b6 f6
    refine hfin w6 (b :: D) _ (.nd .lf ⟨b, iv, iv.hi, iv.lo, false⟩ .lf) h6 (fun y hy => ?_) ?_ rfl ⟨1, by rw [nd_mk, CT.mk_RB_black rfl]; exact ⟨0, rfl, rfl, rfl⟩⟩ ⟨fun x hx => ?_, trivial, trivial⟩ ?_ (.refl _) (List.pairwise_singleton _ _)
    · have : y = b := by simpa [CT.bls, CT.nds] using hy
      rw [this]; exact List.mem_cons_self
    · rw [nd_mk]
      refine (RepT.mk_iff (b := b) (by decide)).2 ⟨rfl, ?_, ?_, ?_⟩
      · show Hd (up s b _ b) _; rw [up_same]; exact ⟨rfl, rfl, rfl, rfl⟩
      · show RepT _ (ch (up s b _ b) 0) .lf; rw [up_same]; exact RepT.lf
      · show RepT _ (ch (up s b _ b) (1 - 0)) .lf; rw [up_same]; exact RepT.lf
    · have : x = iv := by simpa [CT.xs, CT.nds] using hx
      rw [this]; exact ⟨Int.le_refl _, Int.le_refl _⟩
    · show ([b] : List Nat).Nodup
      simp
  | nd l n r =>
    rw [← hT]
    have hb : T.blk = some n.b := by rw [hT]; rfl
    rw [hb, show (oA (some n.b)).isNone = false from rfl, BIf_false]
    have dc := dummy_copy (w' := w) (o := T.blk) (num := T.nds.length) h.tr h.ms sp (K := fun n22 =>
      NN (ta tb) fun a23 =>
      LoadT .ptr a23 fun p24 =>
      NextT Go.Proofs.Try.prog (callMethod iv.v "ID" [].toArray) (.s (.one (.int .u64))) fun x25 =>
      NextT Go.Proofs.Try.prog (callMethod iv.v "HighAtDimension" [.int .u64 1].toArray) (.s (.one (.int .i64))) fun x26 =>
      NextT Go.Proofs.Try.prog (callMethod iv.v "LowAtDimension" [.int .u64 1].toArray) (.s (.one (.int .i64))) fun x27 =>
      Drw <|
      NN (ta tb) fun a28 =>
      LoadT .ptr a28 fun p29 =>
      Req (0 ≤ (1 : Int) ∧ (1 : Int) < (2 : Int)) <|
      Store1 ((⟨n22, 3, none⟩ : Addr).add ((1 : Int).toNat)) (.pointer p29) <|
      Loop [.ptr, .any, .addr, .ptr, .ptr, .ptr, (.int .i64), (.int .i64), (.int .i64), (.int .u64), (.int .i64), (.int .i64), .ptr] (F40_L1 k) (ta tb) iv.v ⟨n22, 0, none⟩ none none p24 0 0 1 x25 x26 x27 (some ⟨n22, 0, none⟩)) ?_
    · simp only [NN_mk, add_mk, Nat.zero_add] at dc
      exact dc
    intro w1 dm nD sz h1
    simp only [NN_mk, add_mk, Nat.zero_add]
    refine load_ptr (i := 0) h1.tr rfl ?_
    refine id_intro fun w2 f2 => ?_
    have h2 := h1.fr0 f2
    rw [show (1 : Int) = ((1 : Nat) : Int) from rfl]
    refine hi_intro h2.sp (by decide) fun w3 f3 => ?_
    have h3 := h2.fr0 f3
    refine lo_intro h3.sp (by decide) fun w4 f4 => drw_intro fun w5 f5 z5 => ?_
    have h5 := (h3.fr0 f4).fr0 f5
    refine load_ptr (i := 0) h5.tr rfl (Req_iff.2 ⟨by decide, ?_⟩)
    have dmD : dm ∈ dm :: D := List.mem_cons_self
    show Store1 ⟨dm, 3 + 1, none⟩ (.pointer (oA T.blk)) _ w5
    refine st_ch (d := 1) h5.ms dmD (by decide) fun w6 m6 f6 z6 => ?_
    have h6 := h5.one dmD m6 f6
    rw [up_same, up_up] at h6
    have rt' : RepT (up s dm (setC ⟨none, 0, 0, none, none, false⟩ 1 T.blk)) T.blk T := h.rt.frame fun b hb => up_ne fun e => nD (e ▸ h.hD b hb)
    obtain ⟨K, hK⟩ := h.rb
    refine add_loop (N := 3 * T.nds.length) (D := dm :: D) (s := up s dm (setC ⟨none, 0, 0, none, none, false⟩ 1 T.blk)) (o0 := T.blk) (dm := dm) (Lb := T.nds.map bx) (c := .top) (t := T) (dN := 0) (lN := 0) (K := K) (L := T.xs) hid hfin (by omega) ⟨h6, ⟨dmD, fun e he => ?_, ?_, ?_⟩, ⟨?_, rt', rfl⟩, fun n hn => (by cases hn), fun n hn => (by cases hn), fun n hn => (by cases hn), hK, trivial, hB, trivial, ?_, by decide, by decide, ⟨rfl, rfl, rfl, h.rd, by rw [hb]; simp, rfl⟩⟩
    · obtain ⟨q, hq, rfl⟩ := List.mem_map.1 he
      exact List.mem_cons_of_mem _ (h.hD q.b (List.mem_map.2 ⟨q, hq, rfl⟩))
    · rw [List.map_map]
      refine List.nodup_cons.2 ⟨fun hm => nD (h.hD dm hm), h.nd⟩
    · rw [List.map_map]; exact h.so
    · show (up s dm _ dm).c1 = _; rw [up_same]; rfl
    · rw [List.map_map]; rfl
end
end Go.Proofs.Ythapmkjmfkmnoaa.E
