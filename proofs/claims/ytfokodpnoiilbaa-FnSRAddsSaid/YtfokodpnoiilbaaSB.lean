/-
  Skip lists: a run.
-/
import Derived.Test.YtfokodpnoiilbaaSA
namespace Go.Proofs.Ytfokodpnoiilbaa.E
open Go
set_option linter.unusedSimpArgs false
set_option linter.unusedVariables false
set_option maxRecDepth 100000
set_option maxHeartbeats 8000000

def runA (l : List Itm) : List Stp → List Ans
  | [] => []
  | s :: ss => stepA l s :: runA (stepS l s) ss
def runL (l : List Itm) (ss : List Stp) : List Itm := ss.foldl stepS l
theorem runL_snoc (l : List Itm) (ss : List Stp) (s : Stp) : runL l (ss ++ [s]) = stepS (runL l ss) s := by unfold runL; rw [List.foldl_append]; rfl
theorem runA_snoc : ∀ (ss : List Stp) (l : List Itm) (s : Stp), runA l (ss ++ [s]) = runA l ss ++ [stepA (runL l ss) s]
  | [], l, s => rfl
  | a :: ss, l, s => by show _ :: runA _ (ss ++ [s]) = _ :: _; rw [runA_snoc ss]; rfl
theorem runA_length : ∀ (ss : List Stp) (l : List Itm), (runA l ss).length = ss.length
  | [], _ => rfl
  | a :: ss, l => by show (runA _ ss).length + 1 = _; rw [runA_length ss]; rfl
def tot (ss : List Stp) : Nat := ss.foldl (fun n s => n + s.items.length) 0
theorem tot_snoc (ss : List Stp) (s : Stp) : tot (ss ++ [s]) = tot ss + s.items.length := by unfold tot; rw [List.foldl_append]; rfl
theorem tot_app (a b : List Stp) : tot (a ++ b) = tot a + tot b := by
  have : ∀ (b : List Stp) (n : Nat), b.foldl (fun n s => n + s.items.length) n = n + tot b := fun b => by
    induction b with
    | nil => intro n; rfl
    | cons x b ih =>
      intro n
      show b.foldl _ (n + x.items.length) = _
      rw [ih, show tot (x :: b) = b.foldl (fun n s => n + s.items.length) (0 + x.items.length) from rfl, ih]
      omega
  unfold tot
  rw [List.foldl_append, this]; rfl
theorem stepS_len (l : List Itm) (s : Stp) : (stepS l s).length ≤ l.length + s.items.length := by
  unfold stepS
  split
  · exact runS_len putI len_put _ _
  · split
    · exact runS_len delI len_del' _ _
    · omega
theorem runL_len : ∀ (ss : List Stp) (l : List Itm), (runL l ss).length ≤ l.length + tot ss
  | [], l => Nat.le_refl _
  | s :: ss, l => by
    have h1 := runL_len ss (stepS l s)
    have h2 := stepS_len l s
    have h3 := tot_app [s] ss
    have h4 : tot [s] = 0 + s.items.length := rfl
    show (runL (stepS l s) ss).length ≤ _
    rw [show s :: ss = [s] ++ ss from rfl, h3]
    omega
def Okay (s : Stp) : Prop := (s.op = 1 ∨ s.op = 2 ∨ s.op = 4 ∨ s.op = 5 ∨ s.op = 6) ∧ 0 ≤ s.most ∧ s.most < 4000000000

def z35 : Value := .agg #[.slice none 0 0, .slice none 0 0, .int .u64 0]
theorem und28 : Try.prog.underlying 28 = some (.slice 35) := by kernel_rfl
theorem und75 : Try.prog.underlying 75 = some (.slice 72) := by kernel_rfl
theorem inf35 : ∃ i, Try.prog.info? 35 = some i ∧ i.zero = some z35 ∧ i.size = 3 ∧ i.bytes ≤ 4096 := ⟨_, rfl, by kernel_rfl, by kernel_rfl, Nat.le_of_ble_eq_true (by kernel_rfl)⟩
theorem inf72 : ∃ i, Try.prog.info? 72 = some i ∧ i.zero = some (.pointer none) ∧ i.size = 1 ∧ i.bytes ≤ 4096 := ⟨_, rfl, by kernel_rfl, by kernel_rfl, Nat.le_of_ble_eq_true (by kernel_rfl)⟩
theorem fill35 (p : Option Addr) (l c : Nat) (p' : Option Addr) (l' c' : Nat) (n : Int) : ∀ i : TypeInfo, i.size = 3 → Instr.fill (fun j => some (j * i.size, i.size)) ((Array.range (1 * i.size)).map (z35.cells[· % z35.cells.size]!)) [(0, .agg #[.slice p l c, .slice p' l' c', .int .u64 n])] = some [.slice p l c, .slice p' l' c', .int .u64 n].toArray := by
  intro i h; rw [h]; kernel_rfl
theorem fill72 (p : Option Addr) : ∀ i : TypeInfo, i.size = 1 → Instr.fill (fun j => some (j * i.size, i.size)) ((Array.range (1 * i.size)).map ((Value.pointer none).cells[· % (Value.pointer none).cells.size]!)) [(0, .pointer p)] = some [.pointer p].toArray := by
  intro i h; rw [h]; kernel_rfl
/-- An answer appended. -/
theorem add_an {w : World} {f : Option Addr → Nat → Nat → W} {ty : TypeId} {cs : Array Bool} {p : Option Addr} {l c : Nat} {ss : List Ans} {s : Ans} {pi ph : Option Addr} {ci li ch lh : Nat} {n : Int} (h : SlO AnK w p l c ss) (hli : li = s.items.length) (hlh : lh = s.is.length) (hn : n = (s.n : Nat)) (hi : Sl ItK w pi s.items) (hh : Sl BoK w ph s.is) (hl : l < 4000000000)
    (hk : ∀ p' c' w', Fr (fun b => bl p b) w w' → SlO AnK w' p' (l + 1) c' (ss ++ [s]) → (∀ b, bl p' b → bl p b ∨ w.heap.size ≤ b) → f p' (l + 1) c' w') :
    RawT Try.prog (Instr.buildSlice 28 1 [(0, .agg #[.slice pi li ci, .slice ph lh ch, .int .u64 n])].toArray) (.s (.one .slice)) (fun a m d => NextT Try.prog (builtin .append #[28, 28] ty cs [.slice p l c, .slice a m d].toArray) (.s (.one .slice)) f) w := by
  subst hli hlh hn
  obtain ⟨i, g1, g2, g3, g4⟩ := inf35
  refine build_intro und28 g1 g2 (by omega) (by omega) (fill35 _ _ _ _ _ _ _ i g3) fun w1 f1 b1 z1 => ?_
  have h1 := h.fr0 f1
  refine SlO.append (K := AnK) und28 g1 g2 g3 (by decide) rfl g4 (by decide) h1 b1 (ys := [s]) (Rows.one ⟨pi, ci, ph, ch, rfl, rfl, rfl, hi.fr0 f1, hh.fr0 f1⟩) rfl rfl (fun u hu => ?_) (by omega) fun p' c' w' f' o' hp => hk p' c' w' ((f1.mono fun _ h => h.elim).trans f' fun _ h => .inl h) o' fun b hb => (hp b hb).imp id fun h => by have := f1.size; omega
  simp only [List.mem_cons, List.not_mem_nil, or_false] at hu
  rcases hu with rfl | rfl | rfl <;> rfl
theorem back23 {f : Option Addr → Nat → Nat → Option Addr → Nat → Nat → Int → Option Addr → W} {p : Option Addr} {l c : Nat} {p' : Option Addr} {l' c' : Nat} {n : Int} {q : Option Addr} {w : World} (h : f p l c p' l' c' n q w) :
    Back (.tup [(.agg [.slice, .slice, (.int .u64)]), (.one .ptr)]) f (.returned (.tuple #[.agg #[.slice p l c, .slice p' l' c', .int .u64 n], .pointer q])) w := ⟨((p, l, c), (p', l', c'), n, q, ()), rfl, h⟩
/-- An answer told. -/
theorem F9_J3_spec {k : Value → W} {again : Option Addr → Nat → Nat → Option Addr → Nat → Nat → Option Addr → Nat → Nat → Int → Int → W} {w : World} {lp op sp pi ph : Option Addr} {ll lc ol oc sl sc n ci li ch lh : Nat} {x i m : Int} {ans : List Ans} {a : Ans}
    (hB : Blk w n 35 [.slice pi li ci, .slice ph lh ch, .int .u64 m]) (hO : SlO AnK w op ol oc ans) (hli : li = a.items.length) (hlh : lh = a.is.length) (hm : m = (a.n : Nat)) (hi : Sl ItK w pi a.items) (hh : Sl BoK w ph a.is) (hol : ol < 4000000000)
    (hk : ∀ op' oc' w', SlO AnK w' op' (ol + 1) oc' (ans ++ [a]) → Fr (fun b => bl op b) w w' → (∀ b, bl op' b → bl op b ∨ w.heap.size ≤ b) → again lp ll lc op' (ol + 1) oc' sp sl sc x (addI .i64 i 1) w') :
    F9_J2 k again lp ll lc op ol oc ⟨n, 0, none⟩ none sp sl sc x i w := by
  unfold F9_J2
  rw [Option.isNone_none, Bool.not_true, BIf_false]
  unfold F9_J3
  simp only [add_mk, Nat.zero_add]
  refine load_slice (i := 0) hB rfl (load_slice (i := 1) hB rfl (load_int (i := 2) hB rfl ?_))
  exact add_an hO hli hlh hm hi hh hol fun p' c' w' f' o' hp => hk p' c' w' o' f' hp
/-- SKRun. -/
theorem F9_spec {k : Value → W} {w : World} {bits seed : Int} {ss : List Stp} {sp : Option Addr} {sc : Nat} (hS : Sl StK w sp ss) (hok : ∀ s ∈ ss, Okay s) (htot : tot ss < 2000000000) (hlen : ss.length < 2000000000)
    (hk : ∀ w' p c, Sl AnK w' p (runA [] ss) → Fr (fun _ => False) w w' → k (.slice p ss.length c) w') : F9 k bits seed sp ss.length sc w := by
  unfold F9
  refine F22_call (F22_spec fun v M hv => back_any ?_)
  refine F21_call (F21_spec (key := keyE) hv fun w1 sl F K1 f1 hF1 => back_ptr ?_)
  obtain ⟨i72, g1, g2, g3, g4⟩ := inf72
  refine build_intro und75 g1 g2 (by omega) (by omega) (fill72 _ i72 g3) fun w2 f2 b2 z2 => ?_
  have hb2 : Blk w2 w1.heap.size 72 [.pointer (some ⟨sl, 0, none⟩)] := b2
  generalize hlb : w1.heap.size = lb at *
  have hz1 := f1.size
  refine F9_L1_rule (I := fun lp ll lc op ol oc sp' sl' sc' m j w' => lp = some ⟨lb, 0, none⟩ ∧ ll = 1 ∧ lc = 1 ∧ sp' = sp ∧ sl' = ss.length ∧ sc' = sc ∧ m = ((ss.length : Nat) : Int) ∧ Blk w' lb 72 [.pointer (some ⟨sl, 0, none⟩)] ∧
      ∃ (t : Nat) (F' : Nat → Prop), j = ((t : Nat) : Int) ∧ t ≤ ss.length ∧ ol = t ∧ SK keyE w' sl F' ((runL [] (ss.take t)).map enc) ∧ (∀ b, F' b → w.heap.size ≤ b) ∧ SlO AnK w' op ol oc (runA [] (ss.take t)) ∧ (∀ b, bl op b → w.heap.size ≤ b) ∧ Fr (fun _ => False) w w')
    (μ := fun lp ll lc op ol oc sp' sl' sc' m j w' => ss.length - j.toNat) ?_
    ⟨rfl, rfl, rfl, rfl, rfl, rfl, rfl, hb2, 0, F, rfl, Nat.zero_le _, rfl, K1.fr0 f2, hF1, SlO.nil _ _, (fun b ⟨_, h, _⟩ => by cases h), f1.trans f2 fun _ h => h.elim⟩
  rintro _ _ _ op ol oc _ sl' sc' m j w3 ⟨rfl, rfl, rfl, rfl, e1, e2, rfl, hb3, t, F3, rfl, ht, rfl, K3, hF3, O3, hop, f3⟩
  obtain rfl := e2.symm
  unfold F9_L1
  rw [e1]
  by_cases hlt : ol < ss.length
  · rw [decide_eq_true (show ((ol : Nat) : Int) < ((ss.length : Nat) : Int) by omega), BIf_true]
    have hx : ss[ol]? = some ss[ol] := List.getElem?_eq_getElem hlt
    generalize hst : ss[ol] = st at *
    have hmem : st ∈ ss := List.mem_of_getElem? hx
    obtain ⟨hop1, hm1, hm2⟩ := hok st hmem
    obtain ⟨q, o, rfl, ip, ic, c0, c1, c2, c3, c4, hI⟩ := (hS.fr0 f3).get hx
    simp only [NN_mk, Int.toNat_natCast, add_mk]
    refine ⟨by omega, LoadT_int.2 ⟨_, c0, LoadT_int.2 ⟨_, c1, LoadT_slice.2 ⟨_, _, _, c2, LoadT_int.2 ⟨_, c3, LoadT_int.2 ⟨_, c4, ?_⟩⟩⟩⟩⟩⟩
    refine new_intro fun n w4 e4 b4 f4 z4 => ?_
    refine store_intro (i := 0) b4 (by simp) rfl fun w5 b5 f5 z5 => ?_
    refine store_intro (i := 1) b5 (by simp) rfl fun w6 b6 f6 z6 => ?_
    refine store_intro (i := 2) b6 (by simp) rfl fun w7 b7 f7 z7 => ?_
    refine store_intro (i := 3) b7 (by simp) rfl fun w8 b8 f8 z8 => ?_
    refine store_intro (i := 4) b8 (by simp) rfl fun w9 b9 f9 z9 => ?_
    have hb9 : Blk w9 n 39 [.int .i64 st.op, .int .i64 0, .slice ip st.items.length ic, .int .u64 0, .int .i64 st.most] := b9
    have f39 : Fr (fun _ => False) w3 w9 := by
      have : Fr (fun b => b = n) w3 w9 := (((((f4.mono (S' := fun b => b = n) fun _ h => h.elim).trans f5 fun _ h => .inl h).trans f6 fun _ h => .inl h).trans f7 fun _ h => .inl h).trans f8 fun _ h => .inl h).trans f9 fun _ h => .inl h
      exact this.mono fun b h => .inr (by have h : b = n := h; omega)
    refine load_int (i := 1) hb9 rfl ?_
    rw [show decide ((0 : Int) < 0) = false from rfl, BIf_false]
    refine load_int (i := 1) hb9 rfl ?_
    rw [show decide ((0 : Int) ≥ ((1 : Nat) : Int)) = false from rfl]
    unfold F9_J1
    rw [BIf_false]
    refine drw_intro fun wa fa za => ?_
    have hba := hb9.fr fa id
    have f3a := f39.trans fa fun _ h => h.elim
    have hlba := hb3.fr f3a id
    simp only [NN_mk, add_mk, Nat.zero_add]
    refine load_int (i := 1) hba rfl ⟨by omega, ?_⟩
    refine load_ptr (i := 0) hlba rfl ?_
    refine load_int (i := 0) hba rfl (load_int (i := 1) hba rfl (load_slice (i := 2) hba rfl (load_int (i := 3) hba rfl (load_int (i := 4) hba rfl ?_))))
    have Ka := K3.fr0 f3a
    have Oa := O3.fr0 f3a
    have hIa := hI.fr0 f3a
    have hl1 := runL_len (ss.take ol) []
    have ht1 : tot (ss.take ol) + st.items.length ≤ tot ss := by
      have h1 := tot_app (ss.take (ol + 1)) (ss.drop (ol + 1))
      rw [List.take_append_drop] at h1
      rw [take_snoc hx, tot_snoc] at h1
      omega
    have hl2 : (runL [] (ss.take ol)).length + st.items.length < 4000000000 := by
      simp only [List.length_nil] at hl1; omega
    have hF4 : ∀ {w' : World} {F' : Nat → Prop} {vs : List Value} {b u : Nat} {us : List Value}, SK keyE w' sl F' vs → Blk w' b u us → u ∉ [106, 165, 100, 33] → ¬ F' b := fun K hb hu hF => hu (K.ty _ _ _ hF hb)
    have hz3 := f3.size
    have hz3a := f3a.size
    -- the end of a round
    have fin : ∀ (wz : World) (n2 : Nat) (F5 : Nat → Prop) (pi ph : Option Addr) (ci ch : Nat), SK keyE wz sl F5 ((stepS (runL [] (ss.take ol)) st).map enc) → (∀ b, F5 b → w.heap.size ≤ b) → Fr (fun _ => False) w wz → Blk wz lb 72 [.pointer (some ⟨sl, 0, none⟩)] →
        SlO AnK wz op ol oc (runA [] (ss.take ol)) → Blk wz n2 35 [.slice none 0 0, .slice none 0 0, .int .u64 0] → w.heap.size ≤ n2 → (∀ b, bl op b → b ≠ n2) → Sl ItK wz pi (stepA (runL [] (ss.take ol)) st).items → Sl BoK wz ph (stepA (runL [] (ss.take ol)) st).is →
        (Store1 ⟨n2, 0, none⟩ (.slice pi (stepA (runL [] (ss.take ol)) st).items.length ci) <|
        Store1 ⟨n2, 1, none⟩ (.slice ph (stepA (runL [] (ss.take ol)) st).is.length ch) <|
        Store1 ⟨n2, 2, none⟩ (.int .u64 ((stepA (runL [] (ss.take ol)) st).n : Nat)) <|
        F9_J2 k (fun lp ll lc op' ol' oc' sp' sl' sc' m j w' => (lp = some ⟨lb, 0, none⟩ ∧ ll = 1 ∧ lc = 1 ∧ sp' = some ⟨q, o, none⟩ ∧ sl' = ss.length ∧ sc' = sc ∧ m = ((ss.length : Nat) : Int) ∧ Blk w' lb 72 [.pointer (some ⟨sl, 0, none⟩)] ∧
          ∃ (t : Nat) (F' : Nat → Prop), j = ((t : Nat) : Int) ∧ t ≤ ss.length ∧ ol' = t ∧ SK keyE w' sl F' ((runL [] (ss.take t)).map enc) ∧ (∀ b, F' b → w.heap.size ≤ b) ∧ SlO AnK w' op' ol' oc' (runA [] (ss.take t)) ∧ (∀ b, bl op' b → w.heap.size ≤ b) ∧ Fr (fun _ => False) w w') ∧
          ss.length - j.toNat < ss.length - ((ol : Nat) : Int).toNat)
          (some ⟨lb, 0, none⟩) 1 1 op ol oc ⟨n2, 0, none⟩ none (some ⟨q, o, none⟩) ss.length sc ((ss.length : Nat) : Int) ((ol : Nat) : Int)) wz := fun wz n2 F5 pi ph ci ch Kz hF5 fz hlz Oz bz hn2 hopn hIz hHz => by
      refine store_intro (i := 0) bz (by simp) rfl fun wb bb fb zb => ?_
      refine store_intro (i := 1) bb (by simp) rfl fun wc bc fc zc => ?_
      refine store_intro (i := 2) bc (by simp) rfl fun wd bd fd zd => ?_
      have fzd : Fr (fun b => b = n2) wz wd := (fb.trans fc fun _ h => .inl h).trans fd fun _ h => .inl h
      have T := Tys.one bz
      have Od := Oz.fr' fzd (fun b hb h => hopn b hb h) (fun b u us h hu => by have := T b u us h hu; simp at this; subst this; decide)
      refine F9_J3_spec (a := stepA (runL [] (ss.take ol)) st) bd Od rfl rfl rfl (hIz.fr fzd T (by decide)) (hHz.fr fzd T (by decide)) (by omega) fun op' oc' we Oe fe hpe => ?_
      rw [add64 (by omega)]
      have fwd : Fr (fun _ => False) w wd := fz.trans fzd fun b h => .inr (by have h : b = n2 := h; omega)
      refine ⟨⟨rfl, rfl, rfl, rfl, rfl, rfl, rfl, ?_, ol + 1, F5, rfl, hlt, rfl, ?_, hF5, ?_, fun b hb => ?_, fwd.trans fe fun b hb => .inr (hop b hb)⟩, ?_⟩
      · exact blk_ty (blk_ty hlz fzd T (by decide)) fe Od.ty (by decide)
      · rw [take_snoc hx, runL_snoc]
        exact (Kz.fr_ty fzd T (by decide)).fr_ty fe Od.ty (by decide)
      · rw [take_snoc hx, runA_snoc]; exact Oe
      · have := fwd.size
        rcases hpe b hb with h | h
        · exact hop b h
        · omega
      · show ss.length - ((ol + 1 : Nat) : Int).toNat < ss.length - ((ol : Nat) : Int).toNat
        omega
    refine ⟨?_, ?_⟩
    · refine F23_call (F23_spec Ka hIa hop1 ⟨hm1, hm2⟩ hl2 fun wb Fb pi ci ph ch Kb fb hFb hIb hHb => back23 ?_)
      have hbb := hba.fr fb (hF4 Ka hba (by decide))
      have hlbb := hlba.fr fb (hF4 Ka hlba (by decide))
      have Ob := Oa.fr fb Ka.ty (by decide)
      refine chk (i := 1) hbb rfl ?_
      refine new_intro fun n2 wc e2' bc fc zc => ?_
      have hbc := hbb.fr fc id
      have hlbc := hlbb.fr fc id
      refine chk (i := 0) hbc rfl (chk (i := 1) hbc rfl (chk (i := 2) hbc rfl (chk (i := 3) hbc rfl (chk (i := 4) hbc rfl (chk (i := 0) hlbc rfl (chk (i := 1) hbc rfl ?_))))))
      have hzb := fb.size
      have f0b : Fr (fun _ => False) w wb := ((f3.trans f3a fun _ h => h.elim).trans fb fun b hb => .inr (hF3 b hb))
      refine fin wc n2 Fb pi ph ci ch (Kb.fr0 fc) (fun b hb => ?_) (f0b.trans fc fun _ h => h.elim) hlbc (Ob.fr0 fc) bc (by omega) (fun b hb => by have := Ob.lt hb; omega) (hIb.fr0 fc) (hHb.fr0 fc)
      rcases hFb b hb with h | h
      · exact hF3 b h
      · omega
    · refine new_intro fun n2 wb e2' bb fb zb => ?_
      have hbb := hba.fr fb id
      have hlbb := hlba.fr fb id
      refine chk (i := 0) hbb rfl (chk (i := 1) hbb rfl (chk (i := 2) hbb rfl (chk (i := 3) hbb rfl (chk (i := 4) hbb rfl (chk (i := 0) hlbb rfl (chk (i := 1) hbb rfl ?_))))))
      have Kb := Ka.fr0 fb
      refine F23_call (F23_spec Kb (hIa.fr0 fb) hop1 ⟨hm1, hm2⟩ hl2 fun wc Fc pi ci ph ch Kc fc hFc hIc hHc => back23 ?_)
      have hbc := hbb.fr fc (hF4 Kb hbb (by decide))
      refine chk (i := 1) hbc rfl ?_
      have hzb := fb.size
      have f0c : Fr (fun _ => False) w wc := (((f3.trans f3a fun _ h => h.elim).trans fb fun _ h => h.elim).trans fc fun b hb => .inr (hF3 b hb))
      refine fin wc n2 Fc pi ph ci ch Kc (fun b hb => ?_) f0c (hlbb.fr fc (hF4 Kb hlbb (by decide))) ((Oa.fr0 fb).fr fc Kb.ty (by decide)) (bb.fr fc (hF4 Kb bb (by decide))) (by omega) (fun b hb => by have := Oa.lt hb; omega) hIc hHc
      rcases hFc b hb with h | h
      · exact hF3 b h
      · omega
  · rw [decide_eq_false (show ¬ ((ol : Nat) : Int) < ((ss.length : Nat) : Int) by omega), BIf_false]
    have : ol = ss.length := by omega
    subst this
    rw [List.take_length] at O3
    exact hk w3 op oc O3.sl f3
end Go.Proofs.Ytfokodpnoiilbaa.E
