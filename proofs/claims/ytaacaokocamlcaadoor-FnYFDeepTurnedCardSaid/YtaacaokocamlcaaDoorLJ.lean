/-
  FnYFDeepTurned: the turned steps; the law, walked.
-/
import Derived.Test.YtaacaokocamlcaaDoorLI
namespace Go.Proofs.YtaacaokocamlcaaDoor.E
open Go
set_option linter.unusedSimpArgs false
set_option linter.unusedVariables false
set_option maxRecDepth 100000
set_option maxHeartbeats 8000000

theorem app_ky {w : World} {f : Option Addr → Nat → Nat → W} {ty : TypeId} {cs : Array Bool} {p : Option Addr} {l c : Nat} {xs : List Nat} {x : Nat} {n d : Nat} (h : SlO KyK w p l c xs) (hB : Blk w n 22 [.int .u64 (x : Nat)]) (hl : l < 4000000000) (hk : ∀ p' c' w', Fr (fun b => bl p b) w w' → SlO KyK w' p' (l + 1) c' (xs ++ [x]) → (∀ b, bl p' b → bl p b ∨ w.heap.size ≤ b) → f p' (l + 1) c' w') :
    NextT Tryd.prog (builtin .append #[31, 31] ty cs [.slice p l c, .slice (some ⟨n, 0, none⟩) 1 d].toArray) (.s (.one .slice)) f w := by
  obtain ⟨i, g1, g2, g3, g4⟩ := inf22
  refine SlO.append (K := KyK) und31 g1 g2 g3 (by decide) rfl g4 (by decide) h hB (ys := [x]) (Rows.one rfl) rfl rfl (fun u hu => ?_) (by omega) hk
  simp only [List.mem_cons, List.not_mem_nil, or_false] at hu
  subst hu; rfl
/-- deep07Xor. -/
theorem F20_spec {k : Value → W} {w : World} {p : Option Addr} {c t : Nat} {L : List Stp} (h : Sl StK w p L) (hl : L.length < 1000) (ht : t < 18446744073709551616) (hx : ∀ s ∈ L, s.items.length < 1000 ∧ s.keys.length < 1000 ∧ (∀ x ∈ s.items, x.1 < 18446744073709551616) ∧ ∀ x ∈ s.keys, x < 18446744073709551616)
    (hk : ∀ op oc w', SlO StK w' op L.length oc (L.map (xS t)) → (∀ b, bl op b → w.heap.size ≤ b) → Fr (fun _ => False) w w' → k (.slice op L.length oc) w') : F20 k p L.length c (t : Nat) w := by
  unfold F20
  refine F20_L1_rule (fun lp ll lc y op ol oc i w' => lp = p ∧ ll = L.length ∧ lc = c ∧ y = (t : Nat) ∧ ∃ j : Nat, i = j ∧ j ≤ L.length ∧ ol = j ∧ SlO StK w' op ol oc ((L.take j).map (xS t)) ∧ (∀ b, bl op b → w.heap.size ≤ b) ∧ Fr (fun _ => False) w w')
    (fun _ ll _ _ _ _ _ i _ => ((ll : Int) - i).toNat) ?_ ⟨rfl, rfl, rfl, rfl, 0, rfl, Nat.zero_le _, rfl, SlO.nil _ _, (fun b ⟨_, h, _⟩ => by cases h), Fr.refl _ _⟩
  rintro lp ll lc y op ol oc i w1 ⟨e1, rfl, e2, rfl, j, rfl, hj, rfl, hO, hop, f1⟩
  obtain rfl := e1.symm; obtain rfl := e2.symm
  unfold F20_L1
  by_cases hlt : ol < L.length
  rotate_left
  · have : ol = L.length := by omega
    subst this
    rw [decide_eq_false (by omega)]
    simp only [BIf_false]
    rw [List.take_length] at hO
    exact hk op oc w1 hO hop f1
  rw [decide_eq_true (by omega)]
  have hg : L[ol]? = some L[ol] := List.getElem?_eq_getElem hlt
  obtain ⟨hsi, hsk, hxi, hxk⟩ := hx _ (List.getElem_mem hlt)
  have h1 := h.fr0 f1
  have htk := take_snoc hg
  obtain ⟨q, o, rfl, pi, ci, pk, ck, g0, g1, g2, g3, g4⟩ := h1.get hg
  generalize L[ol] = s at *
  simp only [BIf_true, NN_mk, Int.toNat_natCast, add_mk]
  refine ⟨by omega, LoadT_int.2 ⟨_, g0, ?_⟩⟩
  refine new_intro fun n w2 e2 b2 f2 z2 => ?_
  refine store_intro (i := 0) b2 (by simp) rfl fun w3 b3 f3 z3 => ?_
  refine store_intro (i := 1) b3 (by simp) rfl fun w4 b4 f4 z4 => ?_
  refine store_intro (i := 2) b4 (by simp) rfl fun w5 b5 f5 z5 => ?_
  have f25 : Fr (fun b => b = n) w2 w5 := (f3.trans f4 fun b h => .inl h).trans f5 fun b h => .inl h
  have f15 : Fr (fun _ => False) w1 w5 := f2.trans f25 fun b h => .inr (by have : b = n := h; omega)
  have hn1 : w1.heap.size = n := e2.symm
  have hz1 := f1.size
  -- the items
  refine F20_L2_rule (fun lp ll lc y op' ol' oc' i' sd k2 w' => lp = some ⟨q, o, none⟩ ∧ ll = L.length ∧ lc = c ∧ y = (t : Nat) ∧ op' = op ∧ ol' = ol ∧ oc' = oc ∧ i' = (ol : Nat) ∧ sd = ⟨n, 0, none⟩ ∧ ∃ (t' : Nat) (ip : Option Addr) (ic : Nat), k2 = t' ∧ t' ≤ s.items.length ∧ Blk w' n 33 [.int .i64 s.op, .slice ip t' ic, .slice none 0 0] ∧ SlO ItK w' ip t' ic ((s.items.take t').map (xI t)) ∧ (∀ b, bl ip b → n < b) ∧ Fr (fun _ => False) w1 w')
    (fun _ _ _ _ _ _ _ _ _ k2 _ => ((s.items.length : Int) - k2).toNat) ?_ ⟨rfl, rfl, rfl, rfl, rfl, rfl, rfl, rfl, rfl, 0, none, 0, rfl, Nat.zero_le _, b5, SlO.nil _ _, (fun b ⟨_, h, _⟩ => by cases h), f15⟩
  rintro lp ll lc y op' ol' oc' i' sd k2 w6 ⟨rfl, rfl, e3, rfl, e4, e5, e6, rfl, rfl, t', ip, ic, rfl, htl, b6, oI, hip, f16⟩
  obtain rfl := e3.symm; obtain rfl := e4.symm; obtain rfl := e5.symm; obtain rfl := e6.symm
  have g1' := (f16.cell (cell_lt g1) id).trans g1
  have hnlt := b6.lt
  unfold F20_L2
  simp only [NN_mk, Int.toNat_natCast, add_mk]
  refine ⟨by omega, LoadT_slice.2 ⟨_, _, _, g1', ?_⟩⟩
  by_cases htt : t' < s.items.length
  · rw [decide_eq_true (by omega)]
    have hit : s.items[t']? = some s.items[t'] := List.getElem?_eq_getElem htt
    have hv64 := hxi _ (List.getElem_mem htt)
    have htk2 := take_snoc hit
    obtain ⟨r, u, rfl, d0, d1⟩ := (g3.fr0 f16).get hit
    generalize s.items[t'] = v at *
    simp only [BIf_true]
    refine drw_intro fun w7 f7 z7 => ?_
    have b7 := b6.fr f7 id
    have f17 := f16.trans f7 fun _ h => h.elim
    have g17 := (f17.cell (cell_lt g1) id).trans g1
    have d07 := (f7.cell (cell_lt d0) id).trans d0
    have d17 := (f7.cell (cell_lt d1) id).trans d1
    try simp only [add_mk, Nat.zero_add]
    refine load_slice (i := 1) b7 rfl ?_
    try simp only [NN_mk, Int.toNat_natCast, add_mk]
    refine ⟨by omega, LoadT_slice.2 ⟨_, _, _, g17, ?_⟩⟩
    try simp only [NN_mk, Int.toNat_natCast, add_mk]
    refine ⟨by omega, LoadT_int.2 ⟨_, d07, ?_⟩⟩
    refine ⟨by omega, LoadT_slice.2 ⟨_, _, _, g17, ?_⟩⟩
    try simp only [NN_mk, Int.toNat_natCast, add_mk]
    refine ⟨by omega, LoadT_int.2 ⟨_, d17, ?_⟩⟩
    rw [xorI_nat hv64 ht]
    refine bld_it (x := xI t v) rfl fun mm w8 e8 b8 s8 f8 z8 => ?_
    have b78 := b7.fr f8 id
    have f18 := f17.trans f8 fun _ h => h.elim
    refine ⟨(f8.cell (cell_lt d17) id).trans d17, (f18.cell (cell_lt g1) id).trans g1, (f8.cell (cell_lt d07) id).trans d07, (f18.cell (cell_lt g1) id).trans g1, by rw [b78.cell]; rfl, ?_⟩
    have oI8 := (oI.fr0 f7).fr0 f8
    refine app_it oI8 b8 (by omega) fun p' c' w9 f9 o9 hp9 => ?_
    have b79 := b78.fr f9 fun hb => by have := hip n hb; omega
    have hip1 : ∀ b, bl ip b → w1.heap.size ≤ b := fun b hb => by have := hip b hb; omega
    have f19 : Fr (fun _ => False) w1 w9 := f18.trans f9 fun b hb => .inr (hip1 b hb)
    have hz67 := f7.size
    obtain ⟨r', u', hru, l0, l1⟩ := (g3.fr0 f19).get hit
    cases hru
    refine ⟨l1, (f19.cell (cell_lt g1) id).trans g1, l0, (f19.cell (cell_lt g1) id).trans g1, ?_⟩
    refine store_intro (i := 1) b79 (by simp) rfl fun wa ba fa za => ?_
    rw [add_one (by omega)]
    have hpn : ∀ b, bl p' b → n < b := fun b hb => by
      rcases hp9 b hb with h | h
      · exact hip b h
      · omega
    refine ⟨⟨(by trivial), (by trivial), (by trivial), (by trivial), (by trivial), (by trivial), (by trivial), (by trivial), (by trivial), t' + 1, p', c', rfl, htt, ba, ?_, hpn, f19.trans fa fun b hb => .inr (by have : b = n := hb; omega)⟩, by omega⟩
    rw [htk2, List.map_append]
    exact o9.fr' fa (fun b hb e => by have e : b = n := e; have := hpn b hb; omega) fun b u us hS hu hu2 => by cases hu2
  · have htl' : t' = s.items.length := by omega
    subst htl'
    rw [decide_eq_false (by omega)]
    simp only [BIf_false]
    rw [List.take_length] at oI
    -- the keys
    refine F20_L3_rule (fun lp ll lc y op' ol' oc' i' sd k2 w' => lp = some ⟨q, o, none⟩ ∧ ll = L.length ∧ lc = c ∧ y = (t : Nat) ∧ op' = op ∧ ol' = ol ∧ oc' = oc ∧ i' = (ol : Nat) ∧ sd = ⟨n, 0, none⟩ ∧ ∃ (t' : Nat) (kp : Option Addr) (kc : Nat), k2 = t' ∧ t' ≤ s.keys.length ∧ Blk w' n 33 [.int .i64 s.op, .slice ip s.items.length ic, .slice kp t' kc] ∧ SlO ItK w' ip s.items.length ic (s.items.map (xI t)) ∧ SlO KyK w' kp t' kc ((s.keys.take t').map (· ^^^ t)) ∧ (∀ b, bl kp b → n < b) ∧ Fr (fun _ => False) w1 w')
      (fun _ _ _ _ _ _ _ _ _ k2 _ => ((s.keys.length : Int) - k2).toNat) ?_ ⟨rfl, rfl, rfl, rfl, rfl, rfl, rfl, rfl, rfl, 0, none, 0, rfl, Nat.zero_le _, b6, oI, SlO.nil _ _, (fun b ⟨_, h, _⟩ => by cases h), f16⟩
    rintro lp ll lc y op' ol' oc' i' sd k2 w7 ⟨rfl, rfl, e3, rfl, e4, e5, e6, rfl, rfl, t', kp, kc, rfl, htl, b7, oI7, oK, hkp, f17⟩
    obtain rfl := e3.symm; obtain rfl := e4.symm; obtain rfl := e5.symm; obtain rfl := e6.symm
    have g2' := (f17.cell (cell_lt g2) id).trans g2
    have hnlt := b7.lt
    unfold F20_L3
    try simp only [NN_mk, Int.toNat_natCast, add_mk]
    refine ⟨by omega, LoadT_slice.2 ⟨_, _, _, g2', ?_⟩⟩
    by_cases htt : t' < s.keys.length
    · rw [decide_eq_true (by omega)]
      have hit : s.keys[t']? = some s.keys[t'] := List.getElem?_eq_getElem htt
      have hv64 := hxk _ (List.getElem_mem htt)
      have htk2 := take_snoc hit
      obtain ⟨r, u, rfl, d0⟩ := (g4.fr0 f17).get hit
      have d0 : w7.cell? ⟨r, u + t', none⟩ = some (.int .u64 ((s.keys[t'] : Nat) : Int)) := by
        have := d0
        simp only [KyK, Nat.mul_one, Nat.add_zero] at this
        exact this
      generalize s.keys[t'] = v at *
      simp only [BIf_true]
      refine drw_intro fun w8 f8 z8 => ?_
      have b8 := b7.fr f8 id
      have f18 := f17.trans f8 fun _ h => h.elim
      have g28 := (f18.cell (cell_lt g2) id).trans g2
      have d08 := (f8.cell (cell_lt d0) id).trans d0
      try simp only [add_mk, Nat.zero_add]
      refine load_slice (i := 2) b8 rfl ?_
      try simp only [NN_mk, Int.toNat_natCast, add_mk]
      refine ⟨by omega, LoadT_slice.2 ⟨_, _, _, g28, ?_⟩⟩
      try simp only [NN_mk, Int.toNat_natCast, add_mk]
      refine ⟨by omega, LoadT_int.2 ⟨_, d08, ?_⟩⟩
      rw [xorI_nat hv64 ht]
      refine bld_ky (x := v ^^^ t) rfl fun mm w9 e9 b9 s9 f9 z9 => ?_
      have b89 := b8.fr f9 id
      have f19 := f18.trans f9 fun _ h => h.elim
      refine ⟨(f9.cell (cell_lt d08) id).trans d08, (f19.cell (cell_lt g2) id).trans g2, by rw [b89.cell]; rfl, ?_⟩
      have oK9 := (oK.fr0 f8).fr0 f9
      have oI9 := (oI7.fr0 f8).fr0 f9
      refine app_ky oK9 b9 (by omega) fun p' c' wa fa oa hpa => ?_
      have b8a := b89.fr fa fun hb => by have := hkp n hb; omega
      have hkp1 : ∀ b, bl kp b → w1.heap.size ≤ b := fun b hb => by have := hkp b hb; omega
      have f1a : Fr (fun _ => False) w1 wa := f19.trans fa fun b hb => .inr (hkp1 b hb)
      have oIa := oI9.fr fa oK9.ty (by decide)
      have hz78 := f8.size
      obtain ⟨r', u', hru, l0⟩ := (g4.fr0 f1a).get hit
      cases hru
      have l0 : wa.cell? ⟨r, u + t', none⟩ = some (.int .u64 ((v : Nat) : Int)) := by
        have := l0
        simp only [KyK, Nat.mul_one, Nat.add_zero] at this
        exact this
      refine ⟨l0, (f1a.cell (cell_lt g2) id).trans g2, ?_⟩
      refine store_intro (i := 2) b8a (by simp) rfl fun wb bb fb zb => ?_
      rw [add_one (by omega)]
      have hpn : ∀ b, bl p' b → n < b := fun b hb => by
        rcases hpa b hb with h | h
        · exact hkp b h
        · omega
      refine ⟨⟨(by trivial), (by trivial), (by trivial), (by trivial), (by trivial), (by trivial), (by trivial), (by trivial), (by trivial), t' + 1, p', c', rfl, htt, bb, ?_, ?_, hpn, f1a.trans fb fun b hb => .inr (by have : b = n := hb; omega)⟩, by omega⟩
      · exact oIa.fr' fb (fun b hb e => by
          have e : b = n := e
          obtain ⟨us, hu⟩ := oIa.blk hb
          rw [e] at hu
          exact absurd (hu.unique b8a).1 (by decide)) fun b u us hS hu hu2 => by cases hu2
      · rw [htk2, List.map_append]
        exact oa.fr' fb (fun b hb e => by have e : b = n := e; have := hpn b hb; omega) fun b u us hS hu hu2 => by cases hu2
    · have htl' : t' = s.keys.length := by omega
      subst htl'
      rw [decide_eq_false (by omega)]
      rw [List.take_length] at oK
      simp only [BIf_false, add_mk, Nat.zero_add]
      refine load_int (i := 0) b7 rfl (load_slice (i := 1) b7 rfl (load_slice (i := 2) b7 rfl ?_))
      refine add_st (s := xS t s) (hO.fr0 f17) rfl (by simp [xS]) (by simp [xS]) oI7.sl oK.sl (by omega) fun p' c' w8 f8 o8 hp8 => ?_
      have hz17 := f17.size
      rw [add_one (by omega)]
      refine ⟨⟨(by trivial), (by trivial), (by trivial), (by trivial), ol + 1, rfl, hlt, rfl, ?_, fun b hb => ?_, (f1.trans f17 fun _ h => h.elim).trans f8 fun b hb => .inr (hop b hb)⟩, by omega⟩
      · rw [htk, List.map_append]; exact o8
      · rcases hp8 b hb with h | h
        · exact hop b h
        · omega
theorem ovs_len (xs : List Itm) (s : PSt) : ((ovs s xs).filterMap id).length ≤ xs.length := by
  have h1 := List.length_filterMap_le id (ovs s xs)
  rw [ovs_length] at h1; exact h1
/-- What a run can tell: as many entries as were put in, with keys of the universe. -/
theorem yans {M : Nat} : ∀ (ss : List Stp) (s : PSt), (∀ st ∈ ss, st.items.length ≤ 12 ∧ (∀ x ∈ st.items, x.1 < M) ∧ st.keys.headD 0 < M) → ∀ a ∈ yrun s ss, a.items.length < 1000 ∧ ∀ x ∈ a.items, x.1 < M
  | [], s, _, a, ha => by cases ha
  | st :: ss, s, h, a, ha => by
    obtain ⟨h1, h2, h3⟩ := h st (List.mem_cons_self ..)
    have ha : a = (ystep s st).2 ∨ a ∈ yrun (ystep s st).1 ss := List.mem_cons.1 ha
    rcases ha with rfl | ha
    · have nil : ∀ n, (⟨[], n, false⟩ : An).items.length < 1000 ∧ ∀ x ∈ (⟨[], n, false⟩ : An).items, x.1 < M := fun n => ⟨by simp, fun x hx => by cases hx⟩
      unfold ystep
      split
      · refine ⟨?_, ?_⟩
        · have := ovs_len st.items s
          show ((ovs s st.items).filterMap id).length < 1000; omega
        · have key : ∀ (xs : List Itm) (s : PSt), (∀ x ∈ xs, x.1 < M) → ∀ x ∈ (ovs s xs).filterMap id, x.1 < M := fun xs => by
            induction xs with
            | nil => intro s _ x hx; cases hx
            | cons y ys ih =>
              intro s hy x hx
              have ih' := ih (s.ins y) fun z hz => hy z (List.mem_cons_of_mem _ hz)
              have hx : x ∈ List.filterMap id (((s.m y.1).map fun v => (y.1, v)) :: ovs (s.ins y) ys) := hx
              cases hm : s.m y.1 with
              | none => rw [hm] at hx; exact ih' x hx
              | some v =>
                rw [hm] at hx
                have hx : x ∈ (y.1, v) :: List.filterMap id (ovs (s.ins y) ys) := hx
                rcases List.mem_cons.1 hx with rfl | hx
                · exact hy y (List.mem_cons_self ..)
                · exact ih' x hx
          exact key st.items s h2
      · split
        · refine ⟨?_, fun x hx => ?_⟩
          · have := it1_len (st.keys.headD 0) (s.m (st.keys.headD 0))
            show (it1 _ _).length < 1000; omega
          · have hx : x ∈ it1 (st.keys.headD 0) (s.m (st.keys.headD 0)) := hx
            cases hm : s.m (st.keys.headD 0) with
            | none => rw [hm] at hx; cases hx
            | some v =>
              rw [hm] at hx
              have hx : x ∈ [(st.keys.headD 0, v)] := hx
              rw [List.mem_singleton] at hx
              subst hx; exact h3
        · split
          · exact nil _
          · exact nil _
    · exact yans ss _ (fun x hx => h x (List.mem_cons_of_mem _ hx)) a ha
/-- The law. -/
theorem F5_spec {k : Value → W} {w : World} {size : Int} {y c : Nat} {p : Option Addr} {ss : List Stp} (Ta : Tabs w) (h0 : 0 ≤ size) (hy : y < 18446744073709551616) (hI : StA w p ss) (hk : ∀ w', Fr (fun _ => False) w w' → k (.bool true) w') : F5 k size p ss.length c (y : Nat) w := by
  unfold F5
  refine F17_call (F17_spec hI fun b w1 hb f1 => back_bool ?_)
  cases b with
  | false =>
    simp only [Bool.not_false, BIf_true]
    exact hk w1 f1
  | true =>
    obtain ⟨hl, hall⟩ := hb rfl
    simp only [Bool.not_true, BIf_false]
    refine F7_call (F7_spec h0 fun B hB => back_int ?_)
    refine F13_call (F13_spec hB (back_int ?_))
    refine F18_call (F18_spec hB (hI.fr0 f1) hl (fun s hs => (hall s hs).1) fun op oc w2 hO hop f2 => back_slice ?_)
    refine F13_call (F13_spec hB (back_int ?_))
    have f02 := f1.trans f2 fun _ h => h.elim
    have hok := allS_ok hB ss
    obtain ⟨hLl, hLl2⟩ := allS_length B ss
    have htot := tot_le (n := 12) (allS B ss) fun s hs => (hok s hs).2.2.2.2.1
    have hp64 : 2 ^ B ≤ 18446744073709551616 := Nat.pow_le_pow_right (n := 2) (by decide) (bits_le hB)
    have hpos : 0 < 2 ^ B := Nat.pow_pos (by decide)
    obtain ⟨A, z, hz, hz1⟩ := last_one B ss
    generalize hL : allS B ss = L at *
    refine F15_call (F15_spec hB (Ta.fr f02 id id) hO.sl (fun s hs => ⟨(hok s hs).1, (hok s hs).2.1, (hok s hs).2.2.1⟩) (by omega) (by omega) fun ap ac w3 hA hap f3 => back_slice ?_)
    have f03 := f02.trans f3 fun _ h => h.elim
    rw [and_mask hB hy]
    have ht : y % 2 ^ B < 2 ^ B := Nat.mod_lt _ hpos
    generalize y % 2 ^ B = t at ht
    refine F20_call (F20_spec (hO.fr0 f3).sl (by omega) (by omega) (fun s hs => ?_) fun xp xc w4 hX hxp f4 => back_slice ?_)
    · obtain ⟨g1, g2, g3, g4, g5, g6⟩ := hok s hs
      refine ⟨by omega, by omega, fun x hx => by have := g2 x hx; omega, fun x hx => ?_⟩
      cases hkk : s.keys with
      | nil => exact absurd hkk g4
      | cons a l =>
        rw [hkk] at g6 hx g3
        have : l = [] := List.length_eq_zero_iff.1 (by simpa using g6)
        subst this
        rw [List.mem_singleton] at hx
        subst hx
        have g3 : x < 2 ^ B := g3
        omega
    have f04 := f03.trans f4 fun _ h => h.elim
    have hXl : L.length = (L.map (xS t)).length := by simp
    have hxlt : ∀ q, q < 2 ^ B → q ^^^ t < 2 ^ B := fun q hq => Nat.xor_lt_two_pow hq ht
    have htot2 : tot (L.map (xS t)) ≤ 12 * (L.map (xS t)).length := tot_le (n := 12) _ fun s hs => by
      obtain ⟨s', hs', rfl⟩ := List.mem_map.1 hs
      show (s'.items.map (xI t)).length ≤ 12
      rw [List.length_map]; exact (hok s' hs').2.2.2.2.1
    rw [hXl] at hX ⊢
    rw [← hXl] at htot2
    refine F15_call (F15_spec hB (Ta.fr f04 id id) hX.sl (fun s hs => ?_) (by omega) (by omega) fun bp bc w5 hBb hbp f5 => back_slice ?_)
    · obtain ⟨s', hs', rfl⟩ := List.mem_map.1 hs
      obtain ⟨g1, g2, g3, g4, g5, g6⟩ := hok s' hs'
      refine ⟨g1, fun x hx => ?_, ?_⟩
      · obtain ⟨x', hx', rfl⟩ := List.mem_map.1 hx
        exact hxlt _ (g2 x' hx')
      · show (s'.keys.map (· ^^^ t)).headD 0 < _
        cases hkk : s'.keys with
        | nil => exact absurd hkk g4
        | cons a l =>
          rw [hkk] at g3
          exact hxlt a g3
    have f05 := f04.trans f5 fun _ h => h.elim
    have hrun := Sim.run (t := t) L (s := PSt.new) (s' := PSt.new) ⟨fun _ => rfl, rfl⟩ fun st hs => (hok st hs).2.2.2.1
    rw [hrun] at hBb
    rw [← hXl] at hBb ⊢
    have hyl := yrun_length L PSt.new
    have hA5 := (hA.fr0 f4).fr0 f5
    rw [← hyl] at hA5 hBb ⊢
    have hans := yans (M := 2 ^ B) L PSt.new fun st hs => ⟨(hok st hs).2.2.2.2.1, (hok st hs).2.1, (hok st hs).2.2.1⟩
    refine F19_call (F19_spec hA5.sl hBb.sl (by omega) (by omega) (fun a ha => ⟨(hans a ha).1, fun x hx => by have := (hans a ha).2 x hx; omega⟩) hz (by rw [hz1]; rfl) fun w6 f6 => back_bool ?_)
    exact hk w6 (f05.trans f6 fun _ h => h.elim)
end Go.Proofs.YtaacaokocamlcaaDoor.E
