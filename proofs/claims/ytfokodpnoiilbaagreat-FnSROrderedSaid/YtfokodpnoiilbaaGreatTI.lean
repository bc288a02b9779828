/-
  Range trees of skip lists and ordered ones: the law FnSROrdered, whole.
-/
import Derived.Test.YtfokodpnoiilbaaGreatTH
namespace Go.Proofs.YtfokodpnoiilbaaGreat.E
open Go
set_option linter.unusedSimpArgs false
set_option linter.unusedVariables false
set_option maxRecDepth 100000
set_option maxHeartbeats 8000000

section
variable {w : World} {k : Value → W}
theorem F8_len {dm l : Nat} {ss : List DStp} {sp : Option Addr} {sc : Nat} (hle : l = ss.length) (hd1 : 1 ≤ dm) (hdm : dm < 900) (hS : Sl DStK w sp ss) (ok : ∀ s ∈ ss, OkX s) (hl : ss.length < 1000) (ht : totD ss < 80000)
    (hk : ∀ w' p c, Sl DAnK w' p (runXA dm hiR (mapE dm (nilN dm)) ss) → Fr (fun _ => False) w w' → k (.slice p l c) w') : F8 k ((dm : Nat) : Int) sp l sc w := by
  subst hle
  exact F8_x hd1 hdm hS ok hl ht hk
/-- All steps are asked of both trees. -/
theorem F3_L1_spec {n : Nat} {seed : Int} {sp : Option Addr} {sc : Nat} {es : List EnD} (hn1 : 1 ≤ n) (hn3 : n ≤ 3) (hS : Sl DStK w sp (es.map EnD.st)) (ok : ∀ e ∈ es, okE n e) (hl : es.length ≤ 61) (ht : totE es ≤ 61)
    (hk : ∀ w', Fr (fun _ => False) w w' → k (.bool true) w') :
    Loop [(.int .i64), (.int .i64), .slice, .slice, (.int .i64)] (F3_L1 k) seed ((n : Nat) : Int) sp es.length sc none 0 0 0 w := by
  obtain ⟨i31, g1, g2, g3, g4⟩ := inf49
  have hssl : (es.map EnD.st).length = es.length := List.length_map _
  generalize hss : es.map EnD.st = ss at hS hssl
  have hokX : ∀ s ∈ ss, OkX s := fun s hs => by
    rw [← hss] at hs
    obtain ⟨e, he, rfl⟩ := List.mem_map.1 hs
    exact OkX.of hn3 (ok e he) he ht
  have hhi : ∀ s ∈ ss, (∀ v ∈ s.high, 0 ≤ v ∧ v < 28) ∧ (s.op = 4 → s.high.length = n) := fun s hs => by
    rw [← hss] at hs
    obtain ⟨e, he, rfl⟩ := List.mem_map.1 hs
    exact ⟨(ok e he).hi, (ok e he).h4⟩
  have htD : totD ss ≤ 61 := by rw [← hss, totE_st]; exact ht
  rw [← hssl] at hl ⊢
  refine F3_L1_rule (I := fun sd n' sp' sl' sc' ap al ac i w' => sd = seed ∧ n' = ((n : Nat) : Int) ∧ sp' = sp ∧ sl' = ss.length ∧ sc' = sc ∧ ∃ t : Nat, i = ((t : Nat) : Int) ∧ t ≤ ss.length ∧ al = t ∧ SlO DStK w' ap t ac ((ss.take t).map askD) ∧ (∀ b, bl ap b → w.heap.size ≤ b) ∧ Fr (fun _ => False) w w')
    (μ := fun sd n' sp' sl' sc' ap al ac i w' => ss.length - i.toNat) ?_ ⟨rfl, rfl, rfl, rfl, rfl, 0, rfl, Nat.zero_le _, rfl, SlO.nil _ _, (fun b ⟨_, h, _⟩ => by cases h), Fr.refl _ _⟩
  rintro sd n' sp' sl' sc' ap al ac i w1 ⟨e1, e2, e3, e4, e5, t, rfl, htl, e6, O1, hap, f1⟩
  unfold F3_L1
  rw [e1, e2, e3, e4, e5, e6]
  have z1 := f1.size
  by_cases hlt : t < ss.length
  · rw [decide_eq_true (show ((t : Nat) : Int) < ((ss.length : Nat) : Int) by omega), BIf_true]
    have hx : ss[t]? = some ss[t] := List.getElem?_eq_getElem hlt
    have hmem : ss[t] ∈ ss := List.getElem_mem hlt
    generalize ss[t] = st at hx hmem
    obtain ⟨hr, h4⟩ := hhi st hmem
    have okst := hokX st hmem
    have htk : (ss.take (t + 1)).map askD = (ss.take t).map askD ++ [askD st] := by rw [take_snoc hx, List.map_append]; rfl
    obtain ⟨sq, so, ep, on, dp, dc, pl, cl, ph, ch, dim, idx, num, c0, c1, c2, c3, c4, c5, c6, c7, c8, hI, hlo, hhi'⟩ := (hS.fr0 f1).get hx
    rw [ep]
    simp only [NN_mk, Int.toNat_natCast, add_mk]
    refine Req_iff.2 ⟨by omega, LoadT_int.2 ⟨_, c0, LoadT_int.2 ⟨_, c1, LoadT_slice.2 ⟨_, _, _, c2, LoadT_slice.2 ⟨_, _, _, c3, LoadT_slice.2 ⟨_, _, _, c4, LoadT_int.2 ⟨_, c5, LoadT_int.2 ⟨_, c6, LoadT_int.2 ⟨_, c7, LoadT_int.2 ⟨_, c8, ?_⟩⟩⟩⟩⟩⟩⟩⟩⟩⟩
    refine F6_call (F6_spec hhi' okst.hl hr fun w3 ph' ch' hS3 f3 => back9 ?_)
    refine build_intro und57 g1 g2 (by omega) (by omega) (fill31 _ _ _ _ _ _ _ _ _ _ _ _ _ _ _ i31 g3) fun w4 f4 b4 z4 => ?_
    have f34 : Fr (fun _ => False) w1 w4 := f3.trans f4 fun _ h => h.elim
    have z3 := f3.size
    have hrow := dst_row (w := w4) (s := askD st) (on := on) (p := dp) (c := dc) (q := pl) (d := cl) (r := ph') (b := ch') (dim := dim) (idx := idx) (num := num) (hI.fr0 f34) (hlo.fr0 f34) (hS3.fr0 f4)
    rw [show (askD st).high.length = st.high.length from List.length_map _] at hrow
    refine SlO.append (K := DStK) und57 g1 g2 g3 (by decide) rfl g4 (by decide) (O1.fr0 f34) b4 (ys := [askD st]) (Rows.one hrow) rfl rfl (fun u hu => ?_) (by omega) fun p' c' w5 f5 O5 hp5 => ?_
    · simp only [clsD, List.mem_cons, List.not_mem_nil, or_false] at hu
      rcases hu with rfl | rfl | rfl | rfl | rfl | rfl | rfl | rfl | rfl <;> rfl
    rw [addI_i64 (by omega) (by omega)]
    refine ⟨⟨by trivial, by trivial, by trivial, by trivial, by trivial, t + 1, by omega, hlt, by trivial, by rw [htk]; exact O5, fun b hb => ?_, (f1.trans f34 fun _ h => h.elim).trans f5 fun b hb => .inr (hap b hb)⟩, ?_⟩
    · rcases hp5 b hb with h | h
      · exact hap b h
      · omega
    · show ss.length - (((t : Nat) : Int) + 1).toNat < ss.length - ((t : Nat) : Int).toNat
      omega
  · rw [decide_eq_false (show ¬ ((t : Nat) : Int) < ((ss.length : Nat) : Int) by omega), BIf_false]
    have : t = ss.length := by omega
    subst this
    rw [List.take_length] at O1
    rw [wrap_u64 (by omega) (by omega)]
    refine F7_call (F7_x hn1 (by omega) (hS.fr0 f1) hokX (by omega) (by omega) fun w2 p2 c2 hA f2 => back_slice ?_)
    have hl8 : ss.length = (ss.map askD).length := (List.length_map _).symm
    refine F8_call (F8_len (ss := ss.map askD) hl8 hn1 (by omega) (O1.sl.fr0 f2) (fun s hs => ?_) (by rw [← hl8]; omega) (by rw [totD_ask]; omega) fun w3 p3 c3 hB f3 => back_slice ?_)
    · obtain ⟨s', hs', rfl⟩ := List.mem_map.1 hs
      exact (hokX s' hs').ask
    rw [runXA_ask ss _ fun s hs => (hhi s hs).2] at hB
    rw [show (((ss.length : Nat) : Int) != ((ss.length : Nat) : Int)) = false by simp, BIf_false, BIf_false]
    have hAl : (runXA n hiS (mapE n (nilN n)) ss).length = ss.length := runXA_length n hiS ss _
    have hb1 := run_len n hn1 hiS ss (mapE n (nilN n)) (srt_nil n)
    have hb2 := run_is n hn1 hiS ss (mapE n (nilN n)) (srt_nil n)
    rw [sz_nil n hn1] at hb1 hb2
    have f13 : Fr (fun _ => False) w w3 := (f1.trans f2 fun _ h => h.elim).trans f3 fun _ h => h.elim
    have := F3_L2_spec (k := k) (seed := seed) (sp := sp) (sc := sc) (ac := c2) (bc := c3) (hA.fr0 f3) hB (by rw [hAl]; omega) (fun a ha => ⟨by have := hb1 a ha; omega, by have := hb2 a ha; omega⟩) fun w' f' => hk w' (f13.trans f' fun _ h => h.elim)
    rw [hAl] at this
    exact this
/-- The law. -/
theorem F3_spec {dims seed : Int} {mp : Option Addr} {mc : Nat} {ms : List (Nat → Int)} (hd : 0 ≤ dims ∧ dims < 256) (hM : Mvs .i8 w mp ms) (hk : ∀ w', Fr (fun _ => False) w w' → k (.bool true) w') : F3 k dims seed mp ms.length mc w := by
  unfold F3
  by_cases hbig : ((ms.length : Nat) : Int) > 2147483647
  · rw [decide_eq_true hbig, BIf_true]
    exact hk w (Fr.refl _ _)
  rw [decide_eq_false hbig, BIf_false]
  refine Req_iff.2 ⟨by decide, ?_⟩
  obtain ⟨i3, g1, g2, g3, g4⟩ := inf3r
  obtain ⟨n, hn, hn1, hn3⟩ : ∃ n : Nat, addI .i64 1 (remI (IntKind.wrap .i64 dims) 3) = ((n : Nat) : Int) ∧ 1 ≤ n ∧ n ≤ 3 := by
    rw [wrap_i64 (by omega) (by omega), remI_eq hd.1]
    refine ⟨(1 + dims % 3).toNat, ?_, by omega, by omega⟩
    rw [addI_i64 (by omega) (by omega)]; omega
  rw [hn]
  refine bind_intro ?_
  refine F5_call (F5_spec hM (by omega) fun w1 p1 c1 rs hrl hRs hpos f1 => back_slice ?_)
  refine build_intro und24 g1 g2 (by omega) (by omega) (fill7 i3 g3) fun w2 f2 b2 z2 => ?_
  have hK : Sl InK3 w2 (some ⟨w1.heap.size, 0, none⟩) [1, 1, 3, 1, 4, 2, 6] := Sl.of_blk (K := InK3) b2 fun i x hx => by
    match i, hx with
    | 0, hx => cases hx; rfl
    | 1, hx => cases hx; rfl
    | 2, hx => cases hx; rfl
    | 3, hx => cases hx; rfl
    | 4, hx => cases hx; rfl
    | 5, hx => cases hx; rfl
    | 6, hx => cases hx; rfl
  rw [← hrl]
  refine F4_call (F4_spec (ks := [1, 1, 3, 1, 4, 2, 6]) hn3 (hRs.fr0 f2) hpos hK (by decide) (by decide) (by decide) fun w3 p3 c3 es hSt hok hel het f3 => back_slice ?_)
  have f03 : Fr (fun _ => False) w w3 := (f1.trans f2 fun _ h => h.elim).trans f3 fun _ h => h.elim
  exact F3_L1_spec hn1 hn3 hSt.sl hok hel het fun w' f' => hk w' (f03.trans f' fun _ h => h.elim)
end
end Go.Proofs.YtfokodpnoiilbaaGreat.E
