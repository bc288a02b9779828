/-
  skPlays; the law FnSKInserts.
-/
import Derived.Test.YtfokodpnoiilbaaSG
import Derived.Test.YtfokodpnoiilbaaRow
namespace Go.Proofs.Ytfokodpnoiilbaa.E
open Go
set_option linter.unusedSimpArgs false
set_option linter.unusedVariables false
set_option maxRecDepth 100000
set_option maxHeartbeats 8000000

theorem F10_spec {k : Value → W} {w : World} {size : Int} (h0 : 0 ≤ size) (hk : ∀ y, k (.int .i64 y) w) : F10 k size w := by
  unfold F10
  rw [Req_iff, Req_iff, Bind_iff, remI_eq h0]
  exact ⟨by decide, Int.emod_nonneg _ (by decide), hk _⟩
theorem runA_get : ∀ (ss : List Stp) (l : List Itm) (t : Nat) (s : Stp), ss[t]? = some s → (runA l ss)[t]? = some (stepA (runL l (ss.take t)) s)
  | [], l, t, s, h => by simp at h
  | a :: ss, l, 0, s, h => by simp at h; subst h; rfl
  | a :: ss, l, t + 1, s, h => runA_get ss (stepS l a) t s (by simpa using h)
theorem stepS_so {l : List Itm} (so : SoI l) (s : Stp) : SoI (stepS l s) := by rw [stepS_op]; exact runS_so _ _ so
theorem runL_so : ∀ (ss : List Stp) {l : List Itm}, SoI l → SoI (runL l ss)
  | [], _, so => so
  | s :: ss, l, so => runL_so ss (stepS_so so s)
theorem tot_take_le {ss : List Stp} {t : Nat} {s : Stp} (h : ss[t]? = some s) : tot (ss.take t) + s.items.length ≤ tot ss := by
  have h1 := tot_app (ss.take (t + 1)) (ss.drop (t + 1))
  rw [List.take_append_drop] at h1
  rw [take_snoc h, tot_snoc] at h1
  omega
/-- skPlays. -/
theorem F7_spec {k : Value → W} {w : World} {size seed : Int} {mp : Option Addr} {mc kb : Nat} {ms ks : List Int} (hsz : 0 ≤ size) (hM : U16s w mp ms) (hK : Blk w kb 3 (ks.map (Value.int .i64))) (hk0 : 0 < ks.length) (hk1 : ks.length < 1000) (hks : ∀ x ∈ ks, x = 1 ∨ x = 2 ∨ x = 4 ∨ x = 5 ∨ x = 6)
    (hk : ∀ w', Fr (fun _ => False) w w' → k (.bool true) w') : F7 k size seed mp ms.length mc (some ⟨kb, 0, none⟩) ks.length ks.length w := by
  unfold F7
  refine F8_call (F8_spec hM hK hk0 hk1 hks fun w1 sp sc ss hS hok hlen htot f1 => back_slice ?_)
  refine F10_call (F10_spec hsz fun y => back_int ?_)
  refine F9_call (F9_spec hS (fun s hs => (hok s hs).1) (by omega) (by omega) fun w2 ap ac hA f2 => back_slice ?_)
  rw [show (((ss.length : Nat) : Int) != ((ss.length : Nat) : Int)) = false by simp, BIf_false]
  have f02 := f1.trans f2 fun _ h => h.elim
  have hS2 := hS.fr0 f2
  refine F7_L1_rule (I := fun p1 l1 c1 p2 l2 c2 np nl nc b i w' => p1 = sp ∧ l1 = ss.length ∧ p2 = ap ∧ l2 = ss.length ∧ b = true ∧ ∃ t : Nat, i = ((t : Nat) : Int) ∧ t ≤ ss.length ∧ nl = (runL [] (ss.take t)).length ∧ Ls w' np nc (runL [] (ss.take t)) ∧ Fr (fun _ => False) w2 w')
    (μ := fun p1 l1 c1 p2 l2 c2 np nl nc b i w' => ss.length - i.toNat) ?_ ⟨rfl, rfl, rfl, rfl, rfl, 0, rfl, Nat.zero_le _, rfl, ⟨Sl.nil _ _ _, Nat.le_refl _⟩, Fr.refl _ _⟩
  rintro _ l1 c1 _ l2 c2 np _ nc _ i w3 ⟨rfl, e1, rfl, e2, rfl, t, rfl, ht, rfl, hN, f3⟩
  unfold F7_L1
  rw [e1, e2]
  by_cases hlt : t < ss.length
  · rw [decide_eq_true (show ((t : Nat) : Int) < ((ss.length : Nat) : Int) by omega), BIf_true, BIf_true]
    refine drw_intro fun w4 f4 z4 => ?_
    have f24 := f3.trans f4 fun _ h => h.elim
    have hx : ss[t]? = some ss[t] := List.getElem?_eq_getElem hlt
    generalize ss[t] = st at *
    have hmem : st ∈ ss := List.mem_of_getElem? hx
    obtain ⟨⟨hop, hm⟩, h5⟩ := hok st hmem
    obtain ⟨q, o, rfl, ip, ic, c0, c1', c2', c3, c4, hI⟩ := (hS2.fr0 f24).get hx
    obtain ⟨qa, oa, rfl, pi, ci, ph, ch, d0, d1, d2, gi, gh⟩ := (hA.fr0 f24).get (runA_get ss [] t st hx)
    simp only [NN_mk, Int.toNat_natCast, add_mk]
    refine ⟨by omega, LoadT_int.2 ⟨_, c0, LoadT_int.2 ⟨_, c1', LoadT_slice.2 ⟨_, _, _, c2', LoadT_int.2 ⟨_, c3, LoadT_int.2 ⟨_, c4, ?_⟩⟩⟩⟩⟩⟩
    refine ⟨by omega, LoadT_slice.2 ⟨_, _, _, d0, LoadT_slice.2 ⟨_, _, _, d1, LoadT_int.2 ⟨_, d2, ?_⟩⟩⟩⟩
    have hl1 := runL_len (ss.take t) []
    have hl2 := tot_take_le hx
    have so := runL_so (ss.take t) (l := []) List.Pairwise.nil
    simp only [List.length_nil] at hl1
    refine F17_call (F17_spec hop h5 hm (hN.fr0 f4) so (by omega) hI gi gh fun w5 p5 c5 s5 f5 => back_sb ?_)
    rw [add64 (by omega)]
    have e : runL [] (ss.take (t + 1)) = stepS (runL [] (ss.take t)) st := by rw [take_snoc hx, runL_snoc]
    refine ⟨⟨by trivial, by trivial, by trivial, by trivial, by trivial, t + 1, by trivial, hlt, by rw [e], by rw [e]; exact s5, f24.trans f5 fun _ h => h.elim⟩, ?_⟩
    show ss.length - ((t + 1 : Nat) : Int).toNat < ss.length - ((t : Nat) : Int).toNat
    omega
  · rw [decide_eq_false (show ¬ ((t : Nat) : Int) < ((ss.length : Nat) : Int) by omega), BIf_false]
    exact hk w3 (f02.trans f3 fun _ h => h.elim)

theorem und24 : Try.prog.underlying 24 = some (.slice 3) := by kernel_rfl
theorem inf3 : ∃ i, Try.prog.info? 3 = some i ∧ i.zero = some (.int .i64 0) ∧ i.size = 1 ∧ i.bytes ≤ 4096 := ⟨_, rfl, by kernel_rfl, by kernel_rfl, Nat.le_of_ble_eq_true (by kernel_rfl)⟩
theorem fill3a : ∀ i : TypeInfo, i.size = 1 → Instr.fill (fun j => some (j * i.size, i.size)) ((Array.range (5 * i.size)).map ((Value.int .i64 0).cells[· % (Value.int .i64 0).cells.size]!)) [(0, .int .i64 1), (1, .int .i64 1), (2, .int .i64 2), (3, .int .i64 1), (4, .int .i64 6)] = some (([1, 1, 2, 1, 6] : List Int).map (Value.int .i64)).toArray := by
  intro i h; rw [h]; kernel_rfl
theorem fill3b : ∀ i : TypeInfo, i.size = 1 → Instr.fill (fun j => some (j * i.size, i.size)) ((Array.range (7 * i.size)).map ((Value.int .i64 0).cells[· % (Value.int .i64 0).cells.size]!)) [(0, .int .i64 1), (1, .int .i64 1), (2, .int .i64 5), (3, .int .i64 1), (4, .int .i64 2), (5, .int .i64 4), (6, .int .i64 6)] = some (([1, 1, 5, 1, 2, 4, 6] : List Int).map (Value.int .i64)).toArray := by
  intro i h; rw [h]; kernel_rfl
theorem F3_spec {k : Value → W} {w : World} {size seed : Int} {mp : Option Addr} {mc : Nat} {ms : List Int} (hsz : 0 ≤ size) (hM : U16s w mp ms) (hk : ∀ w', Fr (fun _ => False) w w' → k (.bool true) w') : F3 k size seed mp ms.length mc w := by
  unfold F3
  refine BIf_intro (fun _ => hk w (Fr.refl _ _)) fun _ => ?_
  obtain ⟨i, g1, g2, g3, g4⟩ := inf3
  refine build_intro und24 g1 g2 (by omega) (by omega) (fill3a i g3) fun w1 f1 b1 z1 => ?_
  refine F7_call (F7_spec (ks := [1, 1, 2, 1, 6]) hsz (hM.fr0 f1) b1 (by decide) (by decide) (by decide) fun w2 f2 => back_bool ?_)
  exact hk w2 (f1.trans f2 fun _ h => h.elim)
theorem u16s_of {w : World} {a : Option Addr} {len cap : Nat} {zs : List Int} (h : IsRow .u16 w a len cap zs) : U16s w a (zs.take len) ∧ len = (zs.take len).length := by
  rcases h with ⟨rfl, rfl, rfl, rfl⟩ | ⟨x, rfl, h1, h2, h3, h4, h5⟩
  · exact ⟨fun i x hx => by simp at hx, rfl⟩
  · refine ⟨fun i y hy => ⟨x, rfl, ?_, wf_u16 (h5 y (List.mem_of_mem_take (List.mem_of_getElem? hy)))⟩, by simp; omega⟩
    have hi : i < (zs.take len).length := (List.getElem?_eq_some_iff.1 hy).1
    simp only [List.length_take] at hi
    rw [h4 i (by omega)]
    rw [List.getElem?_take, if_pos (by omega)] at hy
    rw [List.getD_eq_getElem?_getD, hy]; rfl
end Go.Proofs.Ytfokodpnoiilbaa.E
