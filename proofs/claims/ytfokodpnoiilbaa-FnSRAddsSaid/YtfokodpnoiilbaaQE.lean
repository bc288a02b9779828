/-
  Range trees of skip lists: the law FnSRAdds.
-/
import Derived.Test.YtfokodpnoiilbaaQD
namespace Go.Proofs.Ytfokodpnoiilbaa.E
open Go
set_option linter.unusedSimpArgs false
set_option linter.unusedVariables false
set_option maxRecDepth 100000
set_option maxHeartbeats 8000000

theorem runSA_get (dm : Nat) : ∀ (ss : List DStp) (M : OP dm) (t : Nat) (s : DStp), ss[t]? = some s → (runSA dm M ss)[t]? = some (stepSA dm (runSM dm M (ss.take t)) s)
  | [], M, t, s, h => by simp at h
  | a :: ss, M, 0, s, h => by simp at h; subst h; rfl
  | a :: ss, M, t + 1, s, h => by
    show (runSA dm (stepSM dm M a) ss)[t]? = _
    rw [runSA_get dm ss (stepSM dm M a) t s (by simpa using h)]; rfl
def okN (n : Nat) (s : DStp) : Prop := (s.op = 1 ∨ s.op = 3 ∨ s.op = 6) ∧ (∀ x ∈ s.dots, x.1.length = n ∧ PosP x) ∧ s.low.length < 1000 ∧ s.high.length < 1000
theorem fill24 : ∀ i' : TypeInfo, i'.size = 1 → Instr.fill (fun j => some (j * i'.size, i'.size)) ((Array.range (5 * i'.size)).map ((Value.int .i64 0).cells[· % (Value.int .i64 0).cells.size]!)) [(0, .int .i64 1), (1, .int .i64 1), (2, .int .i64 3), (3, .int .i64 1), (4, .int .i64 6)] = some [.int .i64 1, .int .i64 1, .int .i64 3, .int .i64 1, .int .i64 6].toArray := by
  intro i' h; rw [h]; kernel_rfl
section
variable {w : World} {k : Value → W}
theorem back9 {f : Int → Int → Option Addr → Nat → Nat → Option Addr → Nat → Nat → Option Addr → Nat → Nat → Int → Int → Int → Int → W} {a b : Int} {p : Option Addr} {l c : Nat} {p2 : Option Addr} {l2 c2 : Nat} {p3 : Option Addr} {l3 c3 : Nat} {d e g h : Int} (hh : f a b p l c p2 l2 c2 p3 l3 c3 d e g h w) :
    Back (.s (.agg [(.int .i64), (.int .i64), .slice, .slice, .slice, (.int .u64), (.int .i64), (.int .i64), (.int .i64)])) f (.returned (.agg #[.int .i64 a, .int .i64 b, .slice p l c, .slice p2 l2 c2, .slice p3 l3 c3, .int .u64 d, .int .i64 e, .int .i64 g, .int .i64 h])) w :=
  ⟨(a, b, (p, l, c), (p2, l2, c2), (p3, l3, c3), d, e, g, h, ()), rfl, hh⟩
/-- The loop of srPlays. -/
theorem F11_loop {n : Nat} {ss : List DStp} {sp ap : Option Addr} {sc ac al : Nat} (hal : al = ss.length) (hssl : ss.length < 1000) (hn1 : 1 ≤ n) (hn3 : n ≤ 3) (hS : Sl DStK w sp ss) (hA : Sl DAnK w ap (runSA n (mapE n (nilN n)) ss)) (ok : ∀ s ∈ ss, okN n s) (ht : totD ss < 80000)
    (hk : ∀ w', Fr (fun _ => False) w w' → k (.bool true) w') : Loop [.slice, .slice, .slice, .bool, (.int .i64)] (F11_L1 k) sp ss.length sc ap al ac none 0 0 true 0 w := by
  subst hal
  refine F11_L1_rule (I := fun p l c q m d np nl nc is i w' => p = sp ∧ l = ss.length ∧ q = ap ∧ m = ss.length ∧ is = true ∧ ∃ (t : Nat) (now : List PD), i = ((t : Nat) : Int) ∧ t ≤ ss.length ∧ Same n (runSM n (mapE n (nilN n)) (ss.take t)) now ∧ nl = now.length ∧ Lp w' np nc now ∧ now.length ≤ totD (ss.take t) ∧ Fr (fun _ => False) w w')
    (μ := fun p l c q m d np nl nc is i w' => ss.length - i.toNat) ?_ ⟨rfl, rfl, rfl, rfl, rfl, 0, [], rfl, Nat.zero_le _, Same.nil hn1, rfl, ⟨Sl.nil _ _ _, Nat.zero_le _⟩, Nat.zero_le _, Fr.refl _ _⟩
  rintro p l c q m d np nl nc is i w1 ⟨e1, e2, e3, e4, e5, t, now, rfl, htl, hsm, e6, hN, hnl, f1⟩
  unfold F11_L1
  rw [e1, e2, e3, e4, e5, e6]
  by_cases hlt : t < ss.length
  · rw [decide_eq_true (show ((t : Nat) : Int) < ((ss.length : Nat) : Int) by omega), BIf_true, BIf_true]
    refine drw_intro fun w2 f2 z2 => ?_
    have f02 := f1.trans f2 fun _ h => h.elim
    have hx : ss[t]? = some ss[t] := List.getElem?_eq_getElem hlt
    have hmem : ss[t] ∈ ss := List.getElem_mem hlt
    generalize ss[t] = st at hx hmem
    obtain ⟨o1, o2, o3, o4⟩ := ok st hmem
    have hga := runSA_get n ss (mapE n (nilN n)) t st hx
    have hsn : runSM n (mapE n (nilN n)) (ss.take (t + 1)) = stepSM n (runSM n (mapE n (nilN n)) (ss.take t)) st := by rw [take_snoc hx, runSM_snoc]
    have hst : totD (ss.take (t + 1)) = totD (ss.take t) + st.dots.length := by rw [take_snoc hx, totD_snoc]
    have htt := totD_take ss (t + 1)
    generalize runSM n (mapE n (nilN n)) (ss.take t) = M at hsm hga hsn
    obtain ⟨sq, so, ep, on, dp, dc, pl, cl, ph, ch, dim, idx, num, c0, c1, c2, c3, c4, c5, c6, c7, c8, hI, hlo, hhi⟩ := (hS.fr0 f02).get hx
    obtain ⟨aq, ao, eq, gp, gc, hp, hc, a0, a1, a2, a3, hG, hH⟩ := (hA.fr0 f02).get hga
    rw [ep, eq]
    simp only [NN_mk, Int.toNat_natCast, add_mk]
    refine Req_iff.2 ⟨by omega, LoadT_int.2 ⟨_, c0, LoadT_int.2 ⟨_, c1, LoadT_slice.2 ⟨_, _, _, c2, LoadT_slice.2 ⟨_, _, _, c3, LoadT_slice.2 ⟨_, _, _, c4, LoadT_int.2 ⟨_, c5, LoadT_int.2 ⟨_, c6, LoadT_int.2 ⟨_, c7, LoadT_int.2 ⟨_, c8, Req_iff.2 ⟨by omega, LoadT_slice.2 ⟨_, _, _, a0, LoadT_slice.2 ⟨_, _, _, a1, LoadT_slice.2 ⟨_, _, _, a2, LoadT_int.2 ⟨_, a3, ?_⟩⟩⟩⟩⟩⟩⟩⟩⟩⟩⟩⟩⟩⟩⟩
    refine F28_call (F28_spec hhi o4 fun w3 ph' ch' f3 => back9 ?_)
    refine ⟨cellF0 a0 f3, ⟨cellF0 a1 f3, ⟨cellF0 a2 f3, ⟨cellF0 a3 f3, ?_⟩⟩⟩⟩
    have f03 := f02.trans f3 fun _ h => h.elim
    refine F27_call (F27_spec hsm (hN.fr0 (f2.trans f3 fun _ h => h.elim)) (by omega) (by omega) (hI.fr0 f3) (fun x hx => (o2 x hx).1) (hG.fr0 f3) (hH.fr0 f3) o1 fun w4 p4 c4' now4 hs4 hN4 hl4 f4 => back_slb ?_)
    have f34 := f3.trans f4 fun _ h => h.elim
    refine ⟨cellF0 c0 f34, ⟨cellF0 c1 f34, ⟨cellF0 c2 f34, ⟨cellF0 c3 f34, ⟨cellF0 c4 f34, ⟨cellF0 c5 f34, ⟨cellF0 c6 f34, ⟨cellF0 c7 f34, ⟨cellF0 c8 f34, ?_⟩⟩⟩⟩⟩⟩⟩⟩⟩
    rw [addI_i64 (by omega) (by omega)]
    refine ⟨⟨by trivial, by trivial, by trivial, by trivial, by trivial, t + 1, now4, by omega, hlt, by rw [hsn]; exact hs4, by trivial, hN4, by omega, f02.trans f34 fun _ h => h.elim⟩, ?_⟩
    show ss.length - (((t : Nat) : Int) + 1).toNat < ss.length - ((t : Nat) : Int).toNat
    omega
  · rw [decide_eq_false (show ¬ ((t : Nat) : Int) < ((ss.length : Nat) : Int) by omega), BIf_false]
    exact hk w1 f1
/-- srPlays. -/
theorem F11_spec {n : Nat} {seed : Int} {mp kp : Option Addr} {mc kc : Nat} {ms : List (Nat → Int)} {ks : List Int} (hn1 : 1 ≤ n) (hn3 : n ≤ 3) (hM : Mvs .i8 w mp ms) (hl : ms.length ≤ 2147483647) (hK : Sl InK3 w kp ks) (hks : ∀ v ∈ ks, v = 1 ∨ v = 3 ∨ v = 6) (hk0 : 0 < ks.length) (hkl : ks.length < 100)
    (hk : ∀ w', Fr (fun _ => False) w w' → k (.bool true) w') : F11 k ((n : Nat) : Int) seed mp ms.length mc kp ks.length kc w := by
  unfold F11
  refine F25_call (F25_spec hM hl fun w1 p1 c1 rs hrl hR hpos f1 => back_slice ?_)
  rw [← hrl]
  refine F24_call (F24_spec hn3 hR hpos (hK.fr0 f1) hks hk0 hkl fun w2 p2 c2 es hS hok hel het f2 => back_slice ?_)
  have f02 := f1.trans f2 fun _ h => h.elim
  rw [wrap_u64 (by omega) (by omega)]
  have hss := hS.sl
  have hokN : ∀ s ∈ es.map EnD.st, okN n s := fun s hs => by
    obtain ⟨e, he, rfl⟩ := List.mem_map.1 hs
    exact hok e he
  have hsl : (es.map EnD.st).length = es.length := List.length_map _
  have htot : totD (es.map EnD.st) = totE es := by unfold totD totE; rw [List.map_map]; rfl
  rw [← hsl]
  rw [← hsl] at hel
  rw [← htot] at het
  generalize es.map EnD.st = ss at hss hokN hel het
  have hdot : ∀ s ∈ ss, s.dots.length ≤ totD ss := fun s hs => by
    obtain ⟨a, b, rfl⟩ := List.append_of_mem hs
    unfold totD; simp; omega
  refine F26_call (F26_spec hn1 (by omega) hss (fun s hs => ⟨fun x hx => ⟨by rw [((hokN s hs).2.1 x hx).1]; omega, ((hokN s hs).2.1 x hx).2⟩, by have := hdot s hs; omega, (hokN s hs).1⟩) (by omega) (by omega) fun w3 p3 c3 hA f3 => back_slice ?_)
  rw [show (((ss.length : Nat) : Int) != ((ss.length : Nat) : Int)) = false by simp, BIf_false]
  have f03 := f02.trans f3 fun _ h => h.elim
  exact F11_loop rfl (by omega) hn1 hn3 (hss.fr0 f3) hA hokN (by omega) fun w4 f4 => hk w4 (f03.trans f4 fun _ h => h.elim)
/-- The law. -/
theorem F5_spec {dims seed : Int} {mp : Option Addr} {mc : Nat} {ms : List (Nat → Int)} (hd : 0 ≤ dims ∧ dims < 256) (hM : Mvs .i8 w mp ms) (hk : ∀ w', Fr (fun _ => False) w w' → k (.bool true) w') : F5 k dims seed mp ms.length mc w := by
  unfold F5
  by_cases hbig : ((ms.length : Nat) : Int) > 2147483647
  · rw [decide_eq_true hbig, BIf_true]
    exact hk w (Fr.refl _ _)
  rw [decide_eq_false hbig, BIf_false]
  refine Req_iff.2 ⟨by decide, ?_⟩
  obtain ⟨i3, g1, g2, g3, g4⟩ := inf3r
  refine build_intro und24 g1 g2 (by omega) (by omega) (fill24 i3 g3) fun w1 f1 b1 z1 => ?_
  obtain ⟨n, hn, hn1, hn3⟩ : ∃ n : Nat, addI .i64 1 (remI (IntKind.wrap .i64 dims) 3) = ((n : Nat) : Int) ∧ 1 ≤ n ∧ n ≤ 3 := by
    rw [wrap_i64 (by omega) (by omega), remI_eq hd.1]
    refine ⟨(1 + dims % 3).toNat, ?_, by omega, by omega⟩
    rw [addI_i64 (by omega) (by omega)]; omega
  rw [hn]
  have hK : Sl InK3 w1 (some ⟨w.heap.size, 0, none⟩) [1, 1, 3, 1, 6] := Sl.of_blk (K := InK3) b1 fun i x hx => by
    match i, hx with
    | 0, hx => cases hx; rfl
    | 1, hx => cases hx; rfl
    | 2, hx => cases hx; rfl
    | 3, hx => cases hx; rfl
    | 4, hx => cases hx; rfl
  refine F11_call (F11_spec (ks := [1, 1, 3, 1, 6]) hn1 hn3 (hM.fr0 f1) (by omega) hK (by decide) (by decide) (by decide) fun w2 f2 => back_bool ?_)
  exact hk w2 (f1.trans f2 fun _ h => h.elim)
end
end Go.Proofs.Ytfokodpnoiilbaa.E
