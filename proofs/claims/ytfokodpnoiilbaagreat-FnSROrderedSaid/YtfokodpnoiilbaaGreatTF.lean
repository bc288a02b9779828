/-
  Ordered range trees: a step, a run.
-/
import Derived.Test.YtfokodpnoiilbaaGreatTE
namespace Go.Proofs.YtfokodpnoiilbaaGreat.E
open Go
set_option linter.unusedSimpArgs false
set_option linter.unusedVariables false
set_option maxRecDepth 100000
set_option maxHeartbeats 8000000

def tsRD : List TypeId := [175, 97, 172, 70, 76, 188]
theorem Fy.xd1 {base : Nat} {w w' : World} (h : Fy base w w') : FX base tsRD w w' := h.x.mono (by decide)
theorem FX.xd2 {base : Nat} {w w' : World} (h : FX base tsD w w') : FX base tsRD w w' := h.mono (by decide)
theorem Ft.xd3 {base : Nat} {w w' : World} (h : Ft base w w') : FX base tsRD w w' := h.x.mono (by decide)
theorem m_rdel (p a : Option Addr) (l c : Nat) (w : World) : (callMethod (.iface 81 (.pointer p)) "Delete" [.slice a l c].toArray).run Tryz.prog w = .ok (.enter 89 #[.pointer p, .slice a l c]) w := by kernel_rfl
theorem m_rget (p a : Option Addr) (l c : Nat) (w : World) : (callMethod (.iface 81 (.pointer p)) "Get" [.slice a l c].toArray).run Tryz.prog w = .ok (.enter 90 #[.pointer p, .slice a l c]) w := by kernel_rfl
section
variable {w : World} {k : Value → W} {base tb dm B : Nat} {M : OP dm}
theorem mo_rdel {p : Option Addr} {x : W} (h : x w) : MethOk Tryz.prog (.func (.method "Delete") #[.iface 81 (.pointer p)] #[]) x w := ⟨fun w' => by kernel_rfl, h⟩
theorem mo_rget {p : Option Addr} {x : W} (h : x w) : MethOk Tryz.prog (.func (.method "Get") #[.iface 81 (.pointer p)] #[]) x w := ⟨fun w' => by kernel_rfl, h⟩
/-- A step. -/
theorem F18_x {s : DStp} {on dim idx num : Int} {p pl ph : Option Addr} {c cl ch : Nat} (h : TrB w base tb dm B M) (hS : Sl (DoK 42) w p s.dots) (hlo : Sl In64K w pl s.low) (hhi : Sl In64K w ph s.high) (ok : OkX s) (hd1 : 1 ≤ dm) (hdm : dm < 900) (hB : B + s.dots.length < 90000)
    (hk : ∀ w' p' c' q d, TrB w' base tb dm (B + s.dots.length) (stepX dm M s) → Sl (DoK 42) w' p' (ansX dm M (hiR s) s).dots → Sl BoK w' q (ansX dm M (hiR s) s).is → FX base tsRD w w' → k (.agg #[.slice p' (ansX dm M (hiR s) s).dots.length c', .slice q (ansX dm M (hiR s) s).is.length d, .slice none 0 0, .int .u64 (((ansX dm M (hiR s) s).n : Nat) : Int)]) w') :
    F18 k (.iface 81 (.pointer (some ⟨tb, 0, none⟩))) s.op on p s.dots.length c pl s.low.length cl ph s.high.length ch dim idx num ((s.most : Nat) : Int) w := by
  have hsh := fun x hx => (ok.dots x hx).1
  have hdl := ok.dl
  have hll := ok.ll
  have hhl := ok.hl
  have hops := ok.op
  unfold F18
  refine new_intro fun n11 w1 e1 b1 f1 z1 => new_intro fun n12 w2 e2 b2 f2 z2 => ?_
  have b1 := b1.fr f2 id
  have f02 : Fr (fun _ => False) w w2 := f1.trans f2 fun _ h => h.elim
  have z02 := f02.size
  refine load_int (i := 0) b1 rfl ?_
  -- the end: an answer of entries
  have fin : ∀ (wz : World) (os : List (Option Dtn)) (p' : Option Addr) (c' : Nat) (q : Option Addr) (d : Nat), TrB wz base tb dm (B + s.dots.length) (stepX dm M s) → ansD (os.map (Option.map Dtn.pl)) = ansX dm M (hiR s) s → Blk wz n12 38 [.slice none 0 0, .slice none 0 0, .slice none 0 0, .int .u64 0] →
      SlO (DoK 42) wz p' os.length c' (os.map fun o => pdO (o.map Dtn.pl)) → SlO BoK wz q os.length d (os.map Option.isSome) → FX base tsRD w wz →
      (Store1 ⟨n12, 0, none⟩ (.slice p' os.length c') <|
       Store1 ⟨n12, 1, none⟩ (.slice q os.length d) <|
       Store1 ⟨n12, 2, none⟩ (.slice none 0 0) <|
       Store1 ⟨n12, 3, none⟩ (.int .u64 0) <|
       LoadT .slice ⟨n12, 0, none⟩ fun s1p s1l s1c =>
       LoadT .slice ⟨n12, 1, none⟩ fun s2p s2l s2c =>
       LoadT .slice ⟨n12, 2, none⟩ fun s3p s3l s3c =>
       LoadT (.int .u64) ⟨n12, 3, none⟩ fun x4 =>
       k (.agg #[.slice s1p s1l s1c, .slice s2p s2l s2c, .slice s3p s3l s3c, .int .u64 x4])) wz := fun wz os p' c' q d hz ea bz A H fz => by
    refine fin33 bz rfl fun w' f' => ?_
    have T : Tys (fun b => b = n12) wz [38] := Tys.one bz
    have ed : (ansX dm M (hiR s) s).dots = os.map fun o => pdO (o.map Dtn.pl) := by rw [← ea]; unfold ansD; rw [List.map_map]; rfl
    have ei : (ansX dm M (hiR s) s).is = os.map Option.isSome := by
      rw [← ea]
      show (os.map (Option.map Dtn.pl)).map Option.isSome = _
      rw [List.map_map]
      exact List.map_congr_left fun o _ => by cases o <;> rfl
    have en : (ansX dm M (hiR s) s).n = 0 := by rw [← ea]; rfl
    have := hk w' p' c' q d (FX.trB hz ⟨_, f', T, fun _ _ => Nat.zero_le _⟩ (by decide)) (by rw [ed]; exact A.sl.fr f' T (by decide)) (by rw [ei]; exact H.sl.fr f' T (by decide)) (fz.new f' fun b hb => by have hb : b = n12 := hb; omega)
    rw [ed, ei, en, List.length_map, List.length_map] at this
    exact this
  rcases hops with o1 | o2 | o3 | o4 | o6
  · have eM : stepX dm M s = addsP dm M s.dots := if_pos o1
    have eA : ansX dm M (hiR s) s = ansD (oldsP dm M s.dots) := if_pos o1
    rw [show (s.op == 1) = true by rw [o1]; rfl, BIf_true]
    refine drw_intro fun w3 f3 z3 => ?_
    have b13 := b1.fr f3 id
    refine load_slice (i := 2) b13 rfl (mo_radd ?_)
    have f03 := f02.trans f3 fun _ h => h.elim
    refine F25_call (F25_spec (hS.fr0 f03) hsh (by omega) fun w4 p4 c4 ys O4 hys ok4 f4 => back_slice ?_)
    have f04 := f03.trans f4 fun _ h => h.elim
    have hyl : s.dots.length = ys.length := by rw [← hys, List.length_map]
    obtain ⟨L, hT, hL⟩ := h.fr0 f04
    rw [hyl] at O4 hB
    have b14 := b13.fr f4 id
    have hsl : (Value.slice p s.dots.length c) = (Value.slice p ys.length c) := by rw [hyl]
    rw [hyl]
    refine NextT_enterR (m_radd _ _ _ _ w4) (F87_calls (F87_spec hT O4 ok4 hd1 (by omega) hB fun w5 p5 c5 hT5 O5 ok5 f5 => back_slice ?_))
    have b15 := f5.x.blk b14 (by decide)
    refine chk (i := 2) b15 (by rw [← hyl]; rfl) ?_
    have hol := oldsE_length dm ys L
    rw [← hol] at O5
    rw [← hol]
    refine F24_call (F24_spec O5 ok5 (by rw [hol]; omega) fun w6 p6 c6 q6 d6 A6 H6 f6 => back_da ?_)
    refine chk (i := 2) (b15.fr f6 id) (by rw [hol, ← hyl]; rfl) ?_
    refine fin w6 _ p6 c6 q6 d6 ?_ ?_ ((f5.x.blk ((b2.fr f3 id).fr f4 id) (by decide)).fr f6 id) A6 H6 (((FX.of0 f04).trans f5.xd1).trans (.of0 f6))
    · rw [eM, hyl, ← hys, ← hL]
      exact ⟨_, hT5.fr0 f6, mapE_adds dm ys L⟩
    · rw [eA, mapE_olds, hL, hys]
  · have eM : stepX dm M s = delsP dm M s.dots := by unfold stepX; rw [if_neg (by omega), if_pos o2]
    have eA : ansX dm M (hiR s) s = ansD (goneP dm M s.dots) := by unfold ansX; rw [if_neg (by omega), if_pos o2]
    rw [show (s.op == 1) = false from beq_eq_false_iff_ne.2 (by omega), BIf_false, show (s.op == 2) = true by rw [o2]; rfl, BIf_true]
    refine drw_intro fun w3 f3 z3 => ?_
    have b13 := b1.fr f3 id
    refine load_slice (i := 2) b13 rfl (mo_rdel ?_)
    have f03 := f02.trans f3 fun _ h => h.elim
    refine F25_call (F25_spec (hS.fr0 f03) hsh (by omega) fun w4 p4 c4 ys O4 hys ok4 f4 => back_slice ?_)
    have f04 := f03.trans f4 fun _ h => h.elim
    have hyl : s.dots.length = ys.length := by rw [← hys, List.length_map]
    obtain ⟨L, hT, hL⟩ := h.fr0 f04
    rw [hyl] at O4 hB
    have b14 := b13.fr f4 id
    have hsl : (Value.slice p s.dots.length c) = (Value.slice p ys.length c) := by rw [hyl]
    rw [hyl]
    refine NextT_enterR (m_rdel _ _ _ _ w4) (F89_calls (F89_spec hT O4 ok4 hd1 hdm (by omega) (by omega) fun w5 p5 c5 hT5 O5 ok5 f5 => back_slice ?_))
    have b15 := f5.blk b14 (by decide)
    refine chk (i := 2) b15 (by rw [← hyl]; rfl) ?_
    have hol := goneE_length dm ys L
    rw [← hol] at O5
    rw [← hol]
    refine F24_call (F24_spec O5 ok5 (by rw [hol]; omega) fun w6 p6 c6 q6 d6 A6 H6 f6 => back_da ?_)
    refine chk (i := 2) (b15.fr f6 id) (by rw [hol, ← hyl]; rfl) ?_
    refine fin w6 _ p6 c6 q6 d6 ?_ ?_ ((f5.blk ((b2.fr f3 id).fr f4 id) (by decide)).fr f6 id) A6 H6 (((FX.of0 f04).trans f5.xd2).trans (.of0 f6))
    · rw [eM, hyl, ← hys, ← hL]
      exact ⟨_, (hT5.fr0 f6).le (by omega), mapE_dels dm ys L⟩
    · rw [eA, mapE_gone, hL, hys]
  · have eM : stepX dm M s = M := by unfold stepX; rw [if_neg (by omega), if_neg (by omega)]
    have eA : ansX dm M (hiR s) s = ansD (s.dots.map (oldP dm M)) := by unfold ansX; rw [if_neg (by omega), if_neg (by omega), if_pos o3]
    rw [show (s.op == 1) = false from beq_eq_false_iff_ne.2 (by omega), BIf_false, show (s.op == 2) = false from beq_eq_false_iff_ne.2 (by omega), BIf_false, show (s.op == 3) = true by rw [o3]; rfl, BIf_true]
    refine drw_intro fun w3 f3 z3 => ?_
    have b13 := b1.fr f3 id
    refine load_slice (i := 2) b13 rfl (mo_rget ?_)
    have f03 := f02.trans f3 fun _ h => h.elim
    refine F25_call (F25_spec (hS.fr0 f03) hsh (by omega) fun w4 p4 c4 ys O4 hys ok4 f4 => back_slice ?_)
    have f04 := f03.trans f4 fun _ h => h.elim
    have hyl : s.dots.length = ys.length := by rw [← hys, List.length_map]
    obtain ⟨L, hT, hL⟩ := h.fr0 f04
    rw [hyl] at O4 hB
    have b14 := b13.fr f4 id
    have hsl : (Value.slice p s.dots.length c) = (Value.slice p ys.length c) := by rw [hyl]
    rw [hyl]
    refine NextT_enterR (m_rget _ _ _ _ w4) (F90_calls (F90_spec hT O4 ok4 hd1 hdm (by omega) (by omega) fun w5 p5 c5 hT5 O5 ok5 f5 => back_slice ?_))
    have b15 := f5.blk b14 (by decide)
    refine chk (i := 2) b15 (by rw [← hyl]; rfl) ?_
    have hol : (ys.map (oldE dm L)).length = ys.length := List.length_map _
    rw [← hol] at O5
    rw [← hol]
    refine F24_call (F24_spec O5 ok5 (by rw [hol]; omega) fun w6 p6 c6 q6 d6 A6 H6 f6 => back_da ?_)
    refine chk (i := 2) (b15.fr f6 id) (by rw [hol, ← hyl]; rfl) ?_
    refine fin w6 _ p6 c6 q6 d6 ?_ ?_ ((f5.blk ((b2.fr f3 id).fr f4 id) (by decide)).fr f6 id) A6 H6 (((FX.of0 f04).trans f5.xd2).trans (.of0 f6))
    · rw [eM, ← hL]
      exact ⟨_, (hT5.fr0 f6).le (by omega), rfl⟩
    · rw [eA, ← hys, List.map_map, List.map_map]
      congr 1
      exact List.map_congr_left fun y _ => by
        show (oldE dm L y).map Dtn.pl = oldP dm M y.pl
        rw [mapE_old, hL]
  · have eM : stepX dm M s = M := by unfold stepX; rw [if_neg (by omega), if_neg (by omega)]
    have eA : ansX dm M (hiR s) s = ansD (vis (plI s.low) (plI s.high) dm 1 M) := by unfold ansX; rw [if_neg (by omega), if_neg (by omega), if_neg (by omega), if_pos o4]; rfl
    rw [show (s.op == 1) = false from beq_eq_false_iff_ne.2 (by omega), BIf_false, show (s.op == 2) = false from beq_eq_false_iff_ne.2 (by omega), BIf_false, show (s.op == 3) = false from beq_eq_false_iff_ne.2 (by omega), BIf_false, show (s.op == 4) = true by rw [o4]; rfl, BIf_true]
    refine drw_intro fun w3 f3 z3 => ?_
    have b13 := b1.fr f3 id
    have f03 := f02.trans f3 fun _ h => h.elim
    refine load_int (i := 0) b13 rfl (load_int (i := 1) b13 rfl (load_slice (i := 2) b13 rfl (load_slice (i := 3) b13 rfl (load_slice (i := 4) b13 rfl (load_int (i := 5) b13 rfl (load_int (i := 6) b13 rfl (load_int (i := 7) b13 rfl (load_int (i := 8) b13 rfl (mo_rque ?_)))))))))
    refine F26_call (F26_spec (bx := ⟨pl, cl, s.low, ph, ch, s.high⟩) fun w4 f4 => back_any ?_)
    have f04 := f03.trans f4 fun _ h => h.elim
    obtain ⟨L, hT, hL⟩ := h.fr0 f04
    have b14 := b13.fr f4 id
    refine NextT_enterR (m_rque _ _ w4) (F93_calls (F93_spec (bx := ⟨pl, cl, s.low, ph, ch, s.high⟩) hT ⟨hlo.fr0 f04, hhi.fr0 f04, hll, hhl⟩ hd1 (by omega) (by omega) fun w5 p5 c5 O5 ok5 f5 => back_slice ?_))
    have b15 := f5.x.blk b14 (by decide)
    refine chk (i := 0) b15 rfl (chk (i := 1) b15 rfl (chk (i := 2) b15 rfl (chk (i := 3) b15 rfl (chk (i := 4) b15 rfl (chk (i := 5) b15 rfl (chk (i := 6) b15 rfl (chk (i := 7) b15 rfl (chk (i := 8) b15 rfl ?_))))))))
    have hvl := vis_len (plI s.low) (plI s.high) dm 1 L
    obtain ⟨_, _, _, _, _, _, _, _, hsz⟩ := id hT
    refine F24_call (F24_spec O5 ok5 (by show (vis (plI s.low) (plI s.high) dm 1 L).length < _; omega) fun w6 p6 c6 q6 d6 A6 H6 f6 => back_da ?_)
    have b16 := b15.fr f6 id
    refine chk (i := 0) b16 rfl (chk (i := 1) b16 rfl (chk (i := 2) b16 rfl (chk (i := 3) b16 rfl (chk (i := 4) b16 rfl (chk (i := 5) b16 rfl (chk (i := 6) b16 rfl (chk (i := 7) b16 rfl (chk (i := 8) b16 rfl ?_))))))))
    refine fin w6 _ p6 c6 q6 d6 ?_ ?_ ((f5.x.blk ((b2.fr f3 id).fr f4 id) (by decide)).fr f6 id) A6 H6 (((FX.of0 f04).trans f5.xd3).trans (.of0 f6))
    · rw [eM, ← hL]
      exact ⟨_, ((f5.x.tr hT (by decide)).fr0 f6).le (by omega), rfl⟩
    · rw [eA, ← hL]
      unfold mapE
      rw [vis_map]
  · have eM : stepX dm M s = M := by unfold stepX; rw [if_neg (by omega), if_neg (by omega)]
    have eA : ansX dm M (hiR s) s = ⟨[], [], szN dm M⟩ := by unfold ansX; rw [if_neg (by omega), if_neg (by omega), if_neg (by omega), if_neg (by omega)]
    rw [show (s.op == 1) = false from beq_eq_false_iff_ne.2 (by omega), BIf_false, show (s.op == 2) = false from beq_eq_false_iff_ne.2 (by omega), BIf_false, show (s.op == 3) = false from beq_eq_false_iff_ne.2 (by omega), BIf_false, show (s.op == 4) = false from beq_eq_false_iff_ne.2 (by omega), BIf_false, show (s.op == 5) = false from beq_eq_false_iff_ne.2 (by omega), BIf_false, show (s.op == 6) = true by rw [o6]; rfl, BIf_true]
    obtain ⟨L, hT, hL⟩ := h.fr0 f02
    refine NextT_enterR (m_rlen _ w2) (F92_calls (F92_spec hT (back_int ?_)))
    refine fin33 b2 rfl fun w' f' => ?_
    have T : Tys (fun b => b = n12) w2 [38] := Tys.one b2
    have := hk w' none 0 none 0 (FX.trB (by rw [eM]; exact ⟨L, hT.le (by omega), hL⟩) ⟨_, f', T, fun _ _ => Nat.zero_le _⟩ (by decide)) (by rw [eA]; exact Sl.nil _ _ _) (by rw [eA]; exact Sl.nil _ _ _) ((FX.of0 f02).new f' fun b hb => by have hb : b = n12 := hb; omega)
    rw [eA, ← hL] at this
    have es : szN dm (mapE dm L) = szN dm L := szN_map _ dm L
    rw [es] at this
    exact this
/-- RTRun. -/
theorem F8_x {ss : List DStp} {sp : Option Addr} {sc : Nat} (hd1 : 1 ≤ dm) (hdm : dm < 900) (hS : Sl DStK w sp ss) (ok : ∀ s ∈ ss, OkX s) (hl : ss.length < 1000) (ht : totD ss < 80000)
    (hk : ∀ w' p c, Sl DAnK w' p (runXA dm hiR (mapE dm (nilN dm)) ss) → Fr (fun _ => False) w w' → k (.slice p ss.length c) w') : F8 k ((dm : Nat) : Int) sp ss.length sc w := by
  obtain ⟨i59, g1, g2, g3, g4⟩ := inf59
  unfold F8
  refine F17_call (F17_spec (base := w.heap.size) hd1 (by omega) (Nat.le_refl _) fun w0 tb h0 f0 => back_any ?_)
  generalize hM0 : mapE dm (nilN dm) = M0 at hk
  have h0 : TrB w0 w.heap.size tb dm 0 M0 := ⟨_, h0, hM0⟩
  refine F8_L1_rule (I := fun t' op ol oc sp' sl' sc' n j w' => t' = .iface 81 (.pointer (some ⟨tb, 0, none⟩)) ∧ sp' = sp ∧ sl' = ss.length ∧ sc' = sc ∧ n = ((ss.length : Nat) : Int) ∧ ∃ t : Nat, j = ((t : Nat) : Int) ∧ t ≤ ss.length ∧ ol = t ∧ TrB w' w.heap.size tb dm (totD (ss.take t)) (runX dm M0 (ss.take t)) ∧
      SlO DAnK w' op ol oc (runXA dm hiR M0 (ss.take t)) ∧ (∀ b, bl op b → w.heap.size ≤ b) ∧ FX w.heap.size tsRD w w')
    (μ := fun t' op ol oc sp' sl' sc' n j w' => ss.length - j.toNat) ?_ ⟨rfl, rfl, rfl, rfl, rfl, 0, rfl, Nat.zero_le _, rfl, h0, SlO.nil _ _, (fun b ⟨_, h, _⟩ => by cases h), .of0 f0⟩
  rintro _ op ol oc _ sl' sc' n j w1 ⟨rfl, rfl, e1, e2, rfl, t, rfl, htl, rfl, h1, O1, hop, f1⟩
  obtain rfl := e2.symm
  unfold F8_L1
  rw [e1]
  have hz1 := f1.size
  by_cases hlt : ol < ss.length
  · rw [decide_eq_true (show ((ol : Nat) : Int) < ((ss.length : Nat) : Int) by omega), BIf_true]
    have hx : ss[ol]? = some ss[ol] := List.getElem?_eq_getElem hlt
    have hmem : ss[ol] ∈ ss := List.getElem_mem hlt
    generalize ss[ol] = st at hx hmem
    have okst := ok st hmem
    have hSw : Sl DStK w1 _ ss := f1.sl hS (by decide)
    obtain ⟨q, o, rfl, on, dp, dc, pl, cl, ph, ch, dim, idx, num, c0, c1, c2, c3, c4, c5, c6, c7, c8, hI, hlo, hhi⟩ := hSw.get hx
    simp only [NN_mk, Int.toNat_natCast, add_mk]
    refine ⟨by omega, LoadT_int.2 ⟨_, c0, LoadT_int.2 ⟨_, c1, LoadT_slice.2 ⟨_, _, _, c2, LoadT_slice.2 ⟨_, _, _, c3, LoadT_slice.2 ⟨_, _, _, c4, LoadT_int.2 ⟨_, c5, LoadT_int.2 ⟨_, c6, LoadT_int.2 ⟨_, c7, LoadT_int.2 ⟨_, c8, ?_⟩⟩⟩⟩⟩⟩⟩⟩⟩⟩
    refine new_intro fun n w2 e2 b2 f2 z2 => ?_
    refine store_intro (i := 0) b2 (by simp) rfl fun w3 b3 f3 z3 => ?_
    refine store_intro (i := 1) b3 (by simp) rfl fun w4 b4 f4 z4 => ?_
    refine store_intro (i := 2) b4 (by simp) rfl fun w5 b5 f5 z5 => ?_
    refine store_intro (i := 3) b5 (by simp) rfl fun w6 b6 f6 z6 => ?_
    refine store_intro (i := 4) b6 (by simp) rfl fun w7 b7 f7 z7 => ?_
    refine store_intro (i := 5) b7 (by simp) rfl fun w8 b8 f8 z8 => ?_
    refine store_intro (i := 6) b8 (by simp) rfl fun w9 b9 f9 z9 => ?_
    refine store_intro (i := 7) b9 (by simp) rfl fun wa ba fa za => ?_
    refine store_intro (i := 8) ba (by simp) rfl fun wb bb fb zb => ?_
    have bb : Blk wb n 31 [.int .i64 st.op, .int .i64 on, .slice dp st.dots.length dc, .slice pl st.low.length cl, .slice ph st.high.length ch, .int .u64 dim, .int .i64 idx, .int .i64 num, .int .i64 ((st.most : Nat) : Int)] := bb
    have i : ∀ x, x = n → x = n ∨ w1.heap.size ≤ x := fun _ h => .inl h
    have f14 : Fr (fun _ => False) w1 wb := by
      have : Fr (fun b => b = n) w1 wb := (((((((((f2.mono (S' := fun b => b = n) fun _ h => h.elim).trans f3 i).trans f4 i).trans f5 i).trans f6 i).trans f7 i).trans f8 i).trans f9 i).trans fa i).trans fb i
      exact this.mono fun b h => .inr (by have h : b = n := h; omega)
    refine load_int (i := 0) bb rfl (load_int (i := 1) bb rfl (load_slice (i := 2) bb rfl (load_slice (i := 3) bb rfl (load_slice (i := 4) bb rfl (load_int (i := 5) bb rfl (load_int (i := 6) bb rfl (load_int (i := 7) bb rfl (load_int (i := 8) bb rfl ?_))))))))
    have hsnL : runX dm M0 (ss.take (ol + 1)) = stepX dm (runX dm M0 (ss.take ol)) st := by rw [take_snoc hx, runX_snoc]
    have hsnA : runXA dm hiR M0 (ss.take (ol + 1)) = runXA dm hiR M0 (ss.take ol) ++ [ansX dm (runX dm M0 (ss.take ol)) (hiR st) st] := by rw [take_snoc hx, runXA_snoc]
    have hsnT : totD (ss.take (ol + 1)) = totD (ss.take ol) + st.dots.length := by rw [take_snoc hx, totD_snoc]
    have htt := totD_take ss (ol + 1)
    refine F18_call (F18_x (h1.fr0 f14) (hI.fr0 f14) (hlo.fr0 f14) (hhi.fr0 f14) okst hd1 hdm (by omega) fun wc pc cc qc dc h5 A5 H5 f5 => back_da ?_)
    generalize hst : ansX dm (runX dm M0 (ss.take ol)) (hiR st) st = a at *
    refine build_intro und55 g1 g2 (by omega) (by omega) (fill59 _ _ _ _ _ _ _ _ _ _ i59 g3) fun wd fd bd zd => ?_
    have O5 : SlO DAnK wc op ol oc (runXA dm hiR M0 (ss.take ol)) := f5.slO (O1.fr0 f14) (by decide)
    have f05 : FX w.heap.size tsRD w wc := (f1.trans (.of0 f14)).trans f5
    have z05 := f05.size
    have O6 := O5.fr0 fd
    have z5 := f5.size
    have z14 := f14.size
    refine SlO.append (K := DAnK) und55 g1 g2 g3 (by decide) rfl g4 (by decide) O6 bd (ys := [a]) (Rows.one ⟨pc, cc, qc, dc, rfl, rfl, rfl, rfl, A5.fr0 fd, H5.fr0 fd⟩) rfl rfl (fun u hu => ?_) (by omega) fun p' c' we fe O7 hp7 => ?_
    · simp only [List.mem_cons, List.not_mem_nil, or_false] at hu
      rcases hu with rfl | rfl | rfl | rfl <;> rfl
    rw [addI_i64 (by omega) (by omega)]
    have T7 : Tys (fun b => bl op b) wd [38] := O6.ty
    refine ⟨⟨by trivial, by trivial, by trivial, by trivial, by trivial, ol + 1, by omega, hlt, by trivial, ?_, ?_, fun b hb => ?_, (f05.trans (.of0 fd)).new fe fun b hb => hop b hb⟩, ?_⟩
    · rw [hsnL, hsnT]; exact FX.trB (h5.fr0 fd) ⟨_, fe, T7, fun _ _ => Nat.zero_le _⟩ (by decide)
    · rw [hsnA]; exact O7
    · rcases hp7 b hb with h | h
      · exact hop b h
      · have := fd.size; omega
    · show ss.length - (((ol : Nat) : Int) + 1).toNat < ss.length - ((ol : Nat) : Int).toNat
      omega
  · rw [decide_eq_false (show ¬ ((ol : Nat) : Int) < ((ss.length : Nat) : Int) by omega), BIf_false]
    have : ol = ss.length := by omega
    subst this
    rw [List.take_length] at O1
    exact hk w1 op oc O1.sl (f1.fr0 (Nat.le_refl _))
end
end Go.Proofs.YtfokodpnoiilbaaGreat.E
