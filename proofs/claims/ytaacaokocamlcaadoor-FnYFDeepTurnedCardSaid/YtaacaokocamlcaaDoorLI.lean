/-
  FnYFDeepTurned: with some bits of all keys turned a y-fast trie answers the same, but for these bits.
-/
import Derived.Test.YtaacaokocamlcaaDoorArg
namespace Go.Proofs.YtaacaokocamlcaaDoor.E
open Go
set_option linter.unusedSimpArgs false
set_option linter.unusedVariables false
set_option maxRecDepth 100000
set_option maxHeartbeats 8000000

/-! ## Plain -/
def xI (t : Nat) (x : Itm) : Itm := (x.1 ^^^ t, x.2)
def xS (t : Nat) (s : Stp) : Stp := ⟨s.op, s.items.map (xI t), s.keys.map (· ^^^ t)⟩
def xA (t : Nat) (a : An) : An := ⟨a.items.map (xI t), a.n, a.yes⟩
theorem xor_inv (q t : Nat) : (q ^^^ t) ^^^ t = q := by rw [Nat.xor_assoc, Nat.xor_self, Nat.xor_zero]
theorem xor_eq {q t a : Nat} : q ^^^ t = a ↔ q = a ^^^ t := by
  constructor
  · intro h; rw [← h, xor_inv]
  · intro h; rw [h, xor_inv]
def Sim (t : Nat) (s s' : PSt) : Prop := (∀ q, s'.m (q ^^^ t) = s.m q) ∧ s'.num = s.num
theorem Sim.ins {t : Nat} {s s' : PSt} (h : Sim t s s') (x : Itm) : Sim t (s.ins x) (s'.ins (xI t x)) := by
  refine ⟨fun q => ?_, ?_⟩
  · show (if q ^^^ t = x.1 ^^^ t then some x.2 else s'.m (q ^^^ t)) = if q = x.1 then some x.2 else s.m q
    by_cases hq : q = x.1
    · rw [if_pos (by rw [hq]), if_pos hq]
    · rw [if_neg hq, if_neg (fun e => hq (by rw [xor_eq, xor_inv] at e; exact e)), h.1]
  · show s'.num + (if s'.m (x.1 ^^^ t) = none then 1 else 0) = s.num + (if s.m x.1 = none then 1 else 0)
    rw [h.1, h.2]
theorem Sim.insAll {t : Nat} : ∀ (xs : List Itm) {s s' : PSt}, Sim t s s' → Sim t (s.insAll xs) (s'.insAll (xs.map (xI t)))
  | [], s, s', h => h
  | x :: xs, s, s', h => Sim.insAll xs (h.ins x)
theorem Sim.ovs {t : Nat} : ∀ (xs : List Itm) {s s' : PSt}, Sim t s s' → (ovs s' (xs.map (xI t))).filterMap id = ((ovs s xs).filterMap id).map (xI t)
  | [], s, s', h => rfl
  | x :: xs, s, s', h => by
    have ih := Sim.ovs xs (h.ins x)
    show List.filterMap id (((s'.m (x.1 ^^^ t)).map fun v => (x.1 ^^^ t, v)) :: E.ovs (s'.ins (xI t x)) (xs.map (xI t))) = List.map (xI t) (List.filterMap id (((s.m x.1).map fun v => (x.1, v)) :: E.ovs (s.ins x) xs))
    rw [h.1]
    cases s.m x.1 with
    | none => exact ih
    | some v =>
      show (x.1 ^^^ t, v) :: List.filterMap id (E.ovs (s'.ins (xI t x)) (xs.map (xI t))) = (x.1 ^^^ t, v) :: List.map (xI t) (List.filterMap id (E.ovs (s.ins x) xs))
      rw [ih]
theorem Sim.step {t : Nat} {s s' : PSt} (h : Sim t s s') (st : Stp) (hk : st.keys ≠ []) : Sim t (ystep s st).1 (ystep s' (xS t st)).1 ∧ (ystep s' (xS t st)).2 = xA t (ystep s st).2 := by
  unfold ystep
  show Sim t _ (ite (st.op = 1) _ _ : PSt × An).1 ∧ (ite (st.op = 1) _ _ : PSt × An).2 = _
  by_cases h1 : st.op = 1
  · rw [if_pos h1, if_pos h1]
    refine ⟨h.insAll _, ?_⟩
    show (⟨(E.ovs s' (st.items.map (xI t))).filterMap id, 0, false⟩ : An) = _
    rw [Sim.ovs _ h]; rfl
  · rw [if_neg h1, if_neg h1]
    show Sim t _ (ite (st.op = 3) _ _ : PSt × An).1 ∧ (ite (st.op = 3) _ _ : PSt × An).2 = _
    by_cases h3 : st.op = 3
    · rw [if_pos h3, if_pos h3]
      refine ⟨h, ?_⟩
      have hd : (xS t st).keys.headD 0 = st.keys.headD 0 ^^^ t := by
        show (st.keys.map (· ^^^ t)).headD 0 = _
        cases hkk : st.keys with
        | nil => exact absurd hkk hk
        | cons a l => rfl
      show fnd s' ((xS t st).keys.headD 0) = xA t (fnd s (st.keys.headD 0))
      rw [hd]
      unfold fnd
      rw [h.1]
      cases s.m (st.keys.headD 0) <;> rfl
    · rw [if_neg h3, if_neg h3]
      show Sim t _ (ite (st.op = 5) _ _ : PSt × An).1 ∧ (ite (st.op = 5) _ _ : PSt × An).2 = _
      by_cases h5 : st.op = 5
      · rw [if_pos h5, if_pos h5]
        refine ⟨h, ?_⟩
        show (⟨[], s'.num, false⟩ : An) = _
        rw [h.2]; rfl
      · rw [if_neg h5, if_neg h5]
        exact ⟨h, rfl⟩
theorem Sim.run {t : Nat} : ∀ (ss : List Stp) {s s' : PSt}, Sim t s s' → (∀ st ∈ ss, st.keys ≠ []) → yrun s' (ss.map (xS t)) = (yrun s ss).map (xA t)
  | [], s, s', h, _ => rfl
  | st :: ss, s, s', h, hk => by
    obtain ⟨h1, h2⟩ := h.step st (hk st (List.mem_cons_self ..))
    show (ystep s' (xS t st)).2 :: yrun (ystep s' (xS t st)).1 (ss.map (xS t)) = xA t (ystep s st).2 :: (yrun (ystep s st).1 ss).map (xA t)
    rw [h2, Sim.run ss h1 fun x hx => hk x (List.mem_cons_of_mem _ hx)]
/-- All steps. -/
def allS (B : Nat) (ss : List Stp) : List Stp := (ss.take 60).map (stepOf B) ++ [⟨1, [(77, 5)], [0]⟩, ⟨3, [], [77]⟩]
theorem allS_length (B : Nat) (ss : List Stp) : (allS B ss).length ≤ 62 ∧ 2 ≤ (allS B ss).length := by
  unfold allS
  rw [List.length_append, List.length_map, List.length_take]
  simp only [List.length_cons, List.length_nil]
  omega
theorem allS_ok {B : Nat} (hB : Bits B) (ss : List Stp) : ∀ s ∈ allS B ss, Op2 s ∧ (∀ x ∈ s.items, x.1 < 2 ^ B) ∧ s.keys.headD 0 < 2 ^ B ∧ s.keys ≠ [] ∧ s.items.length ≤ 12 ∧ s.keys.length = 1 := fun s hs => by
  have hpos : 0 < 2 ^ B := Nat.pow_pos (by decide)
  have h77 : 77 < 2 ^ B := by rcases hB with rfl | rfl | rfl | rfl <;> decide
  unfold allS at hs
  rcases List.mem_append.1 hs with hs | hs
  · obtain ⟨y, _, rfl⟩ := List.mem_map.1 hs
    refine ⟨opn_ok y.op, fun x hx => ?_, Nat.mod_lt _ hpos, by simp [stepOf], ?_, rfl⟩
    · obtain ⟨z, _, rfl⟩ := List.mem_map.1 hx
      exact Nat.mod_lt _ hpos
    · show ((y.items.take 12).map (msk B)).length ≤ 12
      rw [List.length_map, List.length_take]; omega
  · simp only [List.mem_cons, List.not_mem_nil, or_false] at hs
    rcases hs with rfl | rfl
    · exact ⟨.inl rfl, fun x hx => by rw [List.mem_singleton] at hx; subst hx; exact h77, hpos, by simp, by simp, rfl⟩
    · exact ⟨.inr (.inl rfl), (fun x hx => by cases hx), h77, by simp, by simp, rfl⟩
theorem tot_le {n : Nat} : ∀ (ss : List Stp), (∀ s ∈ ss, s.items.length ≤ n) → tot ss ≤ n * ss.length
  | [], _ => Nat.zero_le _
  | s :: ss, h => by
    have h1 := h s (List.mem_cons_self ..)
    have h2 := tot_le ss fun x hx => h x (List.mem_cons_of_mem _ hx)
    show ss.foldl _ (0 + s.items.length) ≤ _
    rw [tot_from, List.length_cons, Nat.mul_add]; omega
/-- The last answer is the entry that was put in last. -/
theorem last_one (B : Nat) (ss : List Stp) : ∃ A a, yrun PSt.new (allS B ss) = A ++ [a] ∧ a.items = [(77, 5)] := by
  unfold allS
  have e : (ss.take 60).map (stepOf B) ++ [(⟨1, [(77, 5)], [0]⟩ : Stp), ⟨3, [], [77]⟩] = ((ss.take 60).map (stepOf B) ++ [⟨1, [(77, 5)], [0]⟩]) ++ [⟨3, [], [77]⟩] := by simp
  rw [e, yrun_snoc, yend_snoc]
  exact ⟨_, _, rfl, rfl⟩
/-! ## Walks -/
/-- deep07Steps. -/
theorem F18_spec {k : Value → W} {w : World} {B c : Nat} {p : Option Addr} {ss : List Stp} (hB : Bits B) (h : StA w p ss) (hl : ss.length ≤ 2147483647) (hil : ∀ s ∈ ss, s.items.length ≤ 2147483647)
    (hk : ∀ op oc w', SlO StK w' op (allS B ss).length oc (allS B ss) → (∀ b, bl op b → w.heap.size ≤ b) → Fr (fun _ => False) w w' → k (.slice op (allS B ss).length oc) w') : F18 k p ss.length c ((2 ^ B - 1 : Nat) : Int) false w := by
  unfold F18
  refine F40_call (F40_spec hB h hl hil fun op ol oc w1 hO hop f1 => back_slice ?_)
  have hol := hO.len
  have hol2 : ol ≤ 60 := by rw [hol, List.length_map, List.length_take]; omega
  refine F18_L1_rule (fun lp ll lc i w' => lp = op ∧ ll = ol ∧ lc = oc ∧ ∃ j : Nat, i = j ∧ j ≤ ol ∧ Fr (fun _ => False) w1 w')
    (fun _ ll _ i _ => ((ll : Int) - i).toNat) ?_ ⟨rfl, rfl, rfl, 0, rfl, Nat.zero_le _, Fr.refl _ _⟩
  rintro lp ll lc i w2 ⟨e1, rfl, e2, j, rfl, hj, f2⟩
  obtain rfl := e1.symm; obtain rfl := e2.symm
  have hO2 := hO.fr0 f2
  have f02 := f1.trans f2 fun _ h => h.elim
  unfold F18_L1
  by_cases hlt : j < ll
  · rw [decide_eq_true (by omega)]
    have hlt' : j < ((ss.take 60).map (stepOf B)).length := by omega
    have hx : ((ss.take 60).map (stepOf B))[j]? = some ((ss.take 60).map (stepOf B))[j] := List.getElem?_eq_getElem hlt'
    obtain ⟨y, _, hy⟩ := List.mem_map.1 (List.getElem_mem hlt')
    obtain ⟨q, o, rfl, pi, ci, pk, ck, g0, _⟩ := hO2.sl.get hx
    simp only [BIf_true, NN_mk, Int.toNat_natCast, add_mk]
    refine ⟨by omega, LoadT_int.2 ⟨_, g0, ?_⟩⟩
    rw [← hy]
    have hop := opn_ok y.op
    rw [decide_eq_false (show ¬ (stepOf B y).op > 5 by show ¬ opn y.op > 5; omega)]
    simp only [BIf_false]
    rw [add_one (by omega)]
    exact ⟨⟨(by trivial), (by trivial), (by trivial), j + 1, rfl, hlt, f2⟩, by omega⟩
  · rw [decide_eq_false (by omega)]
    simp only [BIf_false]
    refine bld_it (x := (77, 5)) rfl fun m1 w3 e3 b3 s3 f3 z3 => ?_
    refine bld_ky (x := 0) rfl fun m2 w4 e4 b4 s4 f4 z4 => ?_
    refine bld_ky (x := 77) rfl fun m3 w5 e5 b5 s5 f5 z5 => ?_
    obtain ⟨i33, g1, g2, g3, g4⟩ := inf33
    refine build_intro und25 g1 g2 (by omega) (by omega) (fill33b _ _ _ _ _ _ _ _ _ _ _ _ _ _ i33 g3) fun w6 f6 b6 z6 => ?_
    have f46 := (f4.trans f5 fun _ h => h.elim).trans f6 fun _ h => h.elim
    have f26 := f3.trans f46 fun _ h => h.elim
    have R6 : Rows StK w6 0 ([.int .i64 1, .slice (some ⟨m1, 0, none⟩) 1 1, .slice (some ⟨m2, 0, none⟩) 1 1] ++ [.int .i64 3, .slice none 0 0, .slice (some ⟨m3, 0, none⟩) 1 1]) [⟨1, [(77, 5)], [0]⟩, ⟨3, [], [77]⟩] := by
      refine Rows.cons (K := StK) ⟨_, _, _, _, rfl, rfl, rfl, s3.fr0 f46, (s4.fr0 f5).fr0 f6⟩ rfl ?_
      exact Rows.one (K := StK) ⟨_, _, _, _, rfl, rfl, rfl, Sl.nil _ _ _, s5.fr0 f6⟩
    refine SlO.append (K := StK) und25 g1 g2 g3 (by decide) rfl g4 (by decide) (hO2.fr0 f26) (news := [.int .i64 1, .slice (some ⟨m1, 0, none⟩) 1 1, .slice (some ⟨m2, 0, none⟩) 1 1, .int .i64 3, .slice none 0 0, .slice (some ⟨m3, 0, none⟩) 1 1]) b6 R6 rfl rfl (fun u hu => ?_) (by omega) fun p' c' w7 f7 o7 hp7 => ?_
    · simp only [List.mem_cons, List.not_mem_nil, or_false] at hu
      rcases hu with rfl | rfl | rfl | rfl | rfl | rfl <;> rfl
    have hlen : ll + 2 = (allS B ss).length := by unfold allS; rw [List.length_append, ← hol]; rfl
    rw [hlen] at o7 ⊢
    have hz02 := f02.size
    have hz26 := f26.size
    refine hk p' c' w7 o7 (fun b hb => ?_) ((f02.trans f26 fun _ h => h.elim).trans f7 fun b hb => .inr (hop b hb))
    rcases hp7 b hb with h | h
    · exact hop b h
    · omega
/-- deep07Turned, where all is as it must be. -/
theorem F19_spec {k : Value → W} {w : World} {ap bp : Option Addr} {ac bc t : Nat} {ans : List An} {A : List An} {z : An} (hA : Sl AnK w ap ans) (hBb : Sl AnK w bp (ans.map (xA t))) (hl : ans.length < 1000) (ht : t < 18446744073709551616) (hkey : ∀ a ∈ ans, a.items.length < 1000 ∧ ∀ x ∈ a.items, x.1 < 18446744073709551616) (hz : ans = A ++ [z]) (hz1 : z.items.length = 1)
    (hk : ∀ w', Fr (fun _ => False) w w' → k (.bool true) w') : F19 k ap ans.length ac bp ans.length bc (t : Nat) w := by
  have hpos : 0 < ans.length := by rw [hz]; simp
  unfold F19
  rw [show (((ans.length : Nat) : Int) != ((ans.length : Nat) : Int)) = false by simp, show (((ans.length : Nat) : Int) == 0) = false by rw [beq_eq_false_iff_ne]; omega]
  simp only [BIf_false]
  refine F19_L1_rule (fun a al ac' b bl' bc' y i w' => a = ap ∧ al = ans.length ∧ b = bp ∧ bl' = ans.length ∧ ac' = ac ∧ bc' = bc ∧ y = (t : Nat) ∧ ∃ j : Nat, i = j ∧ j ≤ ans.length ∧ Fr (fun _ => False) w w')
    (fun _ _ _ _ _ _ _ i _ => ((ans.length : Int) - i).toNat) ?_ ⟨rfl, rfl, rfl, rfl, rfl, rfl, rfl, 0, rfl, Nat.zero_le _, Fr.refl _ _⟩
  rintro a al ac' b bl' bc' y i w1 ⟨e1, rfl, e2, rfl, e3, e4, rfl, j, rfl, hj, f1⟩
  obtain rfl := e1.symm; obtain rfl := e2.symm; obtain rfl := e3.symm; obtain rfl := e4.symm
  unfold F19_L1
  by_cases hlt : j < ans.length
  rotate_left
  · rw [decide_eq_false (by omega)]
    have hzz : ans[ans.length - 1]? = some z := by
      have : ans.length - 1 = A.length := by rw [hz]; simp
      rw [this, hz, List.getElem?_append_right (Nat.le_refl _), Nat.sub_self]; rfl
    obtain ⟨q, o, rfl, pi, ci, a0, _⟩ := (hA.fr0 f1).get hzz
    have e5 : subI .i64 ((ans.length : Nat) : Int) 1 = ((ans.length - 1 : Nat) : Int) := by rw [subI_i64 (by omega) (by omega)]; omega
    rw [e5]
    simp only [BIf_false, NN_mk, Int.toNat_natCast, add_mk]
    refine ⟨by omega, LoadT_slice.2 ⟨_, _, _, a0, bind_intro ?_⟩⟩
    rw [hz1]
    exact hk w1 f1
  rw [decide_eq_true (by omega)]
  simp only [BIf_true]
  refine drw_intro fun w2 f2 z2 => ?_
  have f02 := f1.trans f2 fun _ h => h.elim
  have hx : ans[j]? = some ans[j] := List.getElem?_eq_getElem hlt
  have hx' : (ans.map (xA t))[j]? = some (xA t ans[j]) := by rw [List.getElem?_map, hx]; rfl
  obtain ⟨hvl, hvk⟩ := hkey _ (List.getElem_mem hlt)
  obtain ⟨q, o, rfl, pi, ci, a0, a1, a2, a3⟩ := (hA.fr0 f02).get hx
  obtain ⟨q', o', rfl, pj, cj, d0, d1, d2, d3⟩ := (hBb.fr0 f02).get hx'
  generalize ans[j] = v at *
  simp only [NN_mk, Int.toNat_natCast, add_mk]
  refine ⟨by omega, LoadT_int.2 ⟨_, a1, ?_⟩⟩
  refine ⟨by omega, LoadT_int.2 ⟨_, d1, ?_⟩⟩
  rw [show (((v.n : Nat) : Int) != (((xA t v).n : Nat) : Int)) = false by show (((v.n : Nat) : Int) != ((v.n : Nat) : Int)) = false; simp]
  simp only [BIf_false]
  refine ⟨by omega, LoadT_bool.2 ⟨_, a2, ?_⟩⟩
  refine ⟨by omega, LoadT_bool.2 ⟨_, d2, ?_⟩⟩
  rw [show (!(v.yes == (xA t v).yes)) = false by show (!(v.yes == v.yes)) = false; simp]
  simp only [BIf_false]
  refine ⟨by omega, LoadT_slice.2 ⟨_, _, _, a0, ?_⟩⟩
  refine ⟨by omega, LoadT_slice.2 ⟨_, _, _, d0, ?_⟩⟩
  have hxl : (xA t v).items.length = v.items.length := List.length_map ..
  rw [hxl] at d0 ⊢
  rw [show (((v.items.length : Nat) : Int) != ((v.items.length : Nat) : Int)) = false by simp]
  simp only [BIf_false]
  refine F19_L2_rule (fun a al ac2 b bl' bc2 y i2 k2 w' => a = some ⟨q, o, none⟩ ∧ al = ans.length ∧ b = some ⟨q', o', none⟩ ∧ bl' = ans.length ∧ ac2 = ac ∧ bc2 = bc ∧ y = (t : Nat) ∧ i2 = (j : Nat) ∧ ∃ h : Nat, k2 = h ∧ h ≤ v.items.length ∧ Fr (fun _ => False) w2 w')
    (fun _ _ _ _ _ _ _ _ k2 _ => ((v.items.length : Int) - k2).toNat) ?_ ⟨rfl, rfl, rfl, rfl, rfl, rfl, rfl, rfl, 0, rfl, Nat.zero_le _, Fr.refl _ _⟩
  rintro a al ac2 b bl' bc2 y i2 k2 w3 ⟨rfl, rfl, rfl, rfl, e6, e7, rfl, rfl, h, rfl, hh, f3⟩
  obtain rfl := e6.symm; obtain rfl := e7.symm
  have a0' := (f3.cell (cell_lt a0) id).trans a0
  have d0' := (f3.cell (cell_lt d0) id).trans d0
  unfold F19_L2
  simp only [NN_mk, Int.toNat_natCast, add_mk]
  refine ⟨by omega, LoadT_slice.2 ⟨_, _, _, a0', ?_⟩⟩
  by_cases hhl : h < v.items.length
  · rw [decide_eq_true (by omega)]
    simp only [BIf_true]
    refine drw_intro fun w4 f4 z4 => ?_
    have f24 := f3.trans f4 fun _ h => h.elim
    have a04 := (f24.cell (cell_lt a0) id).trans a0
    have d04 := (f24.cell (cell_lt d0) id).trans d0
    have hit : v.items[h]? = some v.items[h] := List.getElem?_eq_getElem hhl
    have hit' : (xA t v).items[h]? = some (xI t v.items[h]) := by
      show (v.items.map (xI t))[h]? = _
      rw [List.getElem?_map, hit]; rfl
    have hk64 := hvk _ (List.getElem_mem hhl)
    obtain ⟨r, s, rfl, k0, k1⟩ := (a3.fr0 f24).get hit
    obtain ⟨r', s', rfl, l0, l1⟩ := (d3.fr0 f24).get hit'
    generalize v.items[h] = u at *
    try simp only [NN_mk, Int.toNat_natCast, add_mk]
    refine ⟨by omega, LoadT_slice.2 ⟨_, _, _, a04, ?_⟩⟩
    try simp only [NN_mk, Int.toNat_natCast, add_mk]
    refine ⟨by omega, LoadT_int.2 ⟨_, k1, ?_⟩⟩
    refine ⟨by omega, LoadT_slice.2 ⟨_, _, _, d04, ?_⟩⟩
    try simp only [NN_mk, Int.toNat_natCast, add_mk]
    refine ⟨by omega, LoadT_int.2 ⟨_, l1, ?_⟩⟩
    rw [show (u.2 != (xI t u).2) = false by show (u.2 != u.2) = false; simp]
    simp only [BIf_false, NN_mk, Int.toNat_natCast, add_mk]
    refine ⟨by omega, LoadT_slice.2 ⟨_, _, _, a04, ?_⟩⟩
    try simp only [NN_mk, Int.toNat_natCast, add_mk]
    refine ⟨by omega, LoadT_int.2 ⟨_, k0, ?_⟩⟩
    refine ⟨by omega, LoadT_slice.2 ⟨_, _, _, d04, ?_⟩⟩
    try simp only [NN_mk, Int.toNat_natCast, add_mk]
    refine ⟨by omega, LoadT_int.2 ⟨_, l0, ?_⟩⟩
    have hxx : (xI t u).1 < 18446744073709551616 := Nat.xor_lt_two_pow (n := 64) hk64 ht
    have ex : xorI .u64 (((xI t u).1 : Nat) : Int) ((t : Nat) : Int) = ((u.1 : Nat) : Int) := by
      rw [xorI_nat hxx ht]
      show (((u.1 ^^^ t) ^^^ t : Nat) : Int) = _
      rw [xor_inv]
    rw [ex, show (((u.1 : Nat) : Int) != ((u.1 : Nat) : Int)) = false by simp]
    simp only [BIf_false]
    rw [add_one (by omega)]
    exact ⟨⟨(by trivial), (by trivial), (by trivial), (by trivial), (by trivial), (by trivial), (by trivial), (by trivial), h + 1, rfl, hhl, f24⟩, by omega⟩
  · rw [decide_eq_false (by omega)]
    simp only [BIf_false]
    rw [add_one (by omega)]
    exact ⟨⟨(by trivial), (by trivial), (by trivial), (by trivial), (by trivial), (by trivial), (by trivial), j + 1, rfl, hlt, f02.trans f3 fun _ h => h.elim⟩, by omega⟩
end Go.Proofs.YtaacaokocamlcaaDoor.E
