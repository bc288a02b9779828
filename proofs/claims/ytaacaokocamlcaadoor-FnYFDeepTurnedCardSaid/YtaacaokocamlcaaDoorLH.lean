/-
  Steps that came in: looked at, masked.
-/
import Derived.Test.YtaacaokocamlcaaDoorLG
namespace Go.Proofs.YtaacaokocamlcaaDoor.E
open Go
set_option linter.unusedSimpArgs false
set_option linter.unusedVariables false
set_option maxRecDepth 100000
set_option maxHeartbeats 8000000

theorem add0 (a : Addr) : a.add 0 = a := rfl
def KyA (w : World) (p : Option Addr) (ks : List Nat) : Prop := ∀ i x, ks[i]? = some x → ∃ a, p = some a ∧ w.cell? (a.add i) = some (.int .u64 (x : Nat)) ∧ x < 18446744073709551616
structure StA1 (w : World) (a : Addr) (s : Stp) : Prop where
  ex : ∃ pi ci pk ck, w.cell? a = some (.int .i64 s.op) ∧ w.cell? (a.add 1) = some (.slice pi s.items.length ci) ∧ w.cell? (a.add 2) = some (.slice pk s.keys.length ck) ∧ ItA w pi s.items ∧ KyA w pk s.keys
def StA (w : World) (p : Option Addr) (ss : List Stp) : Prop := ∀ i s, ss[i]? = some s → ∃ a, p = some a ∧ StA1 w (a.add (i * 3)) s
theorem KyA.fr0 {w w' : World} {p : Option Addr} {ks : List Nat} (h : KyA w p ks) (f : Fr (fun _ => False) w w') : KyA w' p ks := fun i x hx => by
  obtain ⟨a, h1, h2, h3⟩ := h i x hx
  exact ⟨a, h1, (f.cell (cell_lt h2) id).trans h2, h3⟩
theorem StA1.fr0 {w w' : World} {a : Addr} {s : Stp} (h : StA1 w a s) (f : Fr (fun _ => False) w w') : StA1 w' a s := by
  obtain ⟨pi, ci, pk, ck, h0, h1, h2, h3, h4⟩ := h.ex
  exact ⟨pi, ci, pk, ck, (f.cell (cell_lt h0) id).trans h0, (f.cell (cell_lt h1) id).trans h1, (f.cell (cell_lt h2) id).trans h2, h3.fr0 f, h4.fr0 f⟩
theorem StA.fr0 {w w' : World} {p : Option Addr} {ss : List Stp} (h : StA w p ss) (f : Fr (fun _ => False) w w') : StA w' p ss := fun i s hs => by
  obtain ⟨a, h1, h2⟩ := h i s hs
  exact ⟨a, h1, h2.fr0 f⟩
/-- zzFits4. -/
theorem F17_spec {k : Value → W} {w : World} {p : Option Addr} {c : Nat} {ss : List Stp} (h : StA w p ss) (hk : ∀ b w', (b = true → ss.length ≤ 2147483647 ∧ ∀ s ∈ ss, s.items.length ≤ 2147483647 ∧ s.keys.length ≤ 2147483647) → Fr (fun _ => False) w w' → k (.bool b) w') : F17 k p ss.length c w := by
  unfold F17
  refine BIf_intro (fun _ => hk false w (fun h => by cases h) (Fr.refl _ _)) fun hb => ?_
  have hl : ¬ ((ss.length : Nat) : Int) > 2147483647 := of_decide_eq_false hb
  refine F17_L1_rule (fun sp sl sc n i w' => sp = p ∧ sl = ss.length ∧ n = (ss.length : Nat) ∧ ∃ j : Nat, i = j ∧ j ≤ ss.length ∧ (∀ t s, t < j → ss[t]? = some s → s.items.length ≤ 2147483647 ∧ s.keys.length ≤ 2147483647) ∧ Fr (fun _ => False) w w')
    (fun _ _ _ n i _ => (n - i).toNat) ?_ ⟨rfl, rfl, rfl, 0, rfl, Nat.zero_le _, fun t s ht => by omega, Fr.refl _ _⟩
  rintro sp sl sc n i w1 ⟨e1, rfl, rfl, j, rfl, hj, hall, f1⟩
  obtain rfl := e1.symm
  unfold F17_L1
  by_cases hlt : j < ss.length
  rotate_left
  · rw [decide_eq_false (by omega)]
    simp only [BIf_false]
    refine hk true w1 (fun _ => ⟨by omega, fun s hs => ?_⟩) f1
    obtain ⟨t, ht, e⟩ := List.getElem_of_mem hs
    exact hall t s (by omega) (by rw [List.getElem?_eq_getElem ht, e])
  rw [decide_eq_true (by omega)]
  have hx : ss[j]? = some ss[j] := List.getElem?_eq_getElem hlt
  obtain ⟨a, rfl, hs⟩ := (h.fr0 f1) j _ hx
  obtain ⟨pi, ci, pk, ck, h0, h1, h2, h3, h4⟩ := hs.ex
  generalize ss[j] = s at *
  simp only [BIf_true, NN_mk, Int.toNat_natCast]
  refine ⟨by omega, LoadT_int.2 ⟨_, h0, LoadT_slice.2 ⟨_, _, _, h1, LoadT_slice.2 ⟨_, _, _, h2, ?_⟩⟩⟩⟩
  refine new_intro fun n10 w2 e2 b2 f2 z2 => ?_
  refine store_intro (i := 0) b2 (by simp) rfl fun w3 b3 f3 z3 => ?_
  refine store_intro (i := 1) b3 (by simp) rfl fun w4 b4 f4 z4 => ?_
  refine store_intro (i := 2) b4 (by simp) rfl fun w5 b5 f5 z5 => ?_
  have f25 : Fr (fun b => b = n10) w2 w5 := (f3.trans f4 fun b h => .inl h).trans f5 fun b h => .inl h
  have f15 : Fr (fun _ => False) w1 w5 := f2.trans f25 fun b h => .inr (by have : b = n10 := h; omega)
  refine load_int (i := 0) b5 rfl (load_slice (i := 1) b5 rfl (load_slice (i := 2) b5 rfl ?_))
  refine F39_call ?_
  unfold F39
  refine new_intro fun n4 w6 e6 b6 f6 z6 => ?_
  have f16 := f15.trans f6 fun _ h => h.elim
  have f06 := f1.trans f16 fun _ h => h.elim
  refine load_slice (i := 1) b6 rfl ?_
  refine BIf_intro (fun _ => back_bool ?_) fun hb1 => ?_
  · simp only [Bool.not_false, BIf_true]
    exact hk false w6 (fun h => by cases h) f06
  refine load_slice (i := 2) b6 rfl ?_
  refine BIf_intro (fun _ => back_bool ?_) fun hb2 => back_bool ?_
  · simp only [Bool.not_false, BIf_true]
    exact hk false w6 (fun h => by cases h) f06
  have hb1 : ¬ ((s.items.length : Nat) : Int) > 2147483647 := of_decide_eq_false hb1
  have hb2 : ¬ ((s.keys.length : Nat) : Int) > 2147483647 := of_decide_eq_false hb2
  simp only [Bool.not_true, BIf_false]
  rw [add_one (by omega)]
  refine ⟨⟨(by trivial), (by trivial), (by trivial), j + 1, rfl, hlt, fun t s' ht hs' => ?_, f06⟩, by omega⟩
  by_cases htj : t = j
  · subst htj; rw [hx] at hs'; cases hs'; omega
  · exact hall t s' (by omega) hs'
/-! ## trSteps, plain -/
def opn (o : Int) : Int := if 1 + o.tmod 7 < 1 ∨ 1 + o.tmod 7 = 2 ∨ 1 + o.tmod 7 = 4 ∨ 1 + o.tmod 7 > 5 then 3 else 1 + o.tmod 7
def stepOf (B : Nat) (s : Stp) : Stp := ⟨opn s.op, (s.items.take 12).map (msk B), [s.keys.headD 0 % 2 ^ B]⟩
theorem tmod7 (o : Int) : -6 ≤ o.tmod 7 ∧ o.tmod 7 ≤ 6 := by
  have h := Int.emod_lt_of_pos o (show (0 : Int) < 7 by decide)
  have h0 := Int.emod_nonneg o (show (7 : Int) ≠ 0 by decide)
  rcases Int.le_total 0 o with h1 | h1
  · rw [Int.tmod_eq_emod_of_nonneg h1]; omega
  · have h2 : o.tmod 7 = -((-o).tmod 7) := by rw [Int.neg_tmod]; omega
    have h3 := Int.emod_lt_of_pos (-o) (show (0 : Int) < 7 by decide)
    have h4 := Int.emod_nonneg (-o) (show (7 : Int) ≠ 0 by decide)
    rw [h2, Int.tmod_eq_emod_of_nonneg (by omega)]; omega
theorem opn_ok (o : Int) : opn o = 1 ∨ opn o = 3 ∨ opn o = 5 := by
  have := tmod7 o
  unfold opn
  split <;> omega
/-- The end of a step: its keys, and it is appended. -/
theorem F40_J3_spec {k : Value → W} {again : Option Addr → Nat → Nat → Int → Bool → Option Addr → Nat → Nat → Int → W} {w : World} {B c n ol oc lc i : Nat} {p op lp : Option Addr} {ss out : List Stp} {s : Stp} {o : Int} {its' : List Itm} (hB : Bits B) (h : StA w p ss) (hs : ss[i]? = some s) (hl : ss.length ≤ 2147483647)
    (hN : Blk w n 33 [.int .i64 o, .slice lp its'.length lc, .slice none 0 0]) (hI : SlO ItK w lp its'.length lc its') (hO : SlO StK w op ol oc out) (hol : ol < 1000) (hn : ∀ b, bl op b → b ≠ n)
    (hpS : ∀ w', Fr (fun b => b = n ∨ w.heap.size ≤ b) w w' → StA w' p ss)
    (hk : ∀ op' oc' w', SlO StK w' op' (ol + 1) oc' (out ++ [⟨o, its', [s.keys.headD 0 % 2 ^ B]⟩]) → (∀ b, bl op' b → bl op b ∨ w.heap.size ≤ b) → Fr (fun b => b = n ∨ bl op b) w w' → again p ss.length c ((2 ^ B - 1 : Nat) : Int) false op' (ol + 1) oc' (addI .i64 (i : Nat) 1) w') :
    F40_J3 k again p ss.length c ((2 ^ B - 1 : Nat) : Int) false op ol oc (i : Nat) ⟨n, 0, none⟩ w := by
  have hlt := (List.getElem?_eq_some_iff.1 hs).1
  unfold F40_J3
  refine bld_ky (x := 0) rfl fun m w1 e1 b1 s1 f1 z1 => ?_
  have hN1 := hN.fr f1 id
  simp only [add_mk, Nat.zero_add]
  refine store_intro (i := 2) hN1 (by simp) rfl fun w2 b2 f2 z2 => ?_
  have hnlt := hN.lt
  have hmn : ¬ m = n := by omega
  have b12 := b1.fr f2 hmn
  have f02 : Fr (fun b => b = n) w w2 := (f1.mono fun _ h => h.elim).trans f2 fun b h => .inl h
  have h2 := hpS w2 (f02.mono fun b h => .inl (.inl h))
  obtain ⟨a, rfl, hs2⟩ := h2 i s hs
  obtain ⟨pi, ci, pk, ck, h0, h1', h2', h3, h4⟩ := hs2.ex
  simp only [NN_mk, Int.toNat_natCast]
  refine ⟨by omega, LoadT_slice.2 ⟨_, _, _, h2', ?_⟩⟩
  have j4 : ∀ w3, Blk w3 n 33 [.int .i64 o, .slice lp its'.length lc, .slice (some ⟨m, 0, none⟩) 1 1] → Blk w3 m 22 [.int .u64 ((s.keys.headD 0 % 2 ^ B : Nat) : Int)] → Fr (fun b => b = n) w w3 → F40_J4 k again (some a) ss.length c ((2 ^ B - 1 : Nat) : Int) false op ol oc (i : Nat) ⟨n, 0, none⟩ w3 := fun w3 b3 bm f03 => by
    unfold F40_J4
    simp only [add_mk, Nat.zero_add]
    refine load_int (i := 0) b3 rfl (load_slice (i := 1) b3 rfl (load_slice (i := 2) b3 rfl ?_))
    have tyn : Tys (fun b => b = n) w [33] := Tys.one hN
    have hO3 := hO.fr' f03 (fun b hb e => hn b hb e) fun b u us hS hu => by
      have := tyn b u us hS hu
      simp only [List.mem_singleton] at this
      subst this; decide
    have hI3 := hI.fr f03 tyn (by decide)
    refine add_st (s := ⟨o, its', [s.keys.headD 0 % 2 ^ B]⟩) hO3 rfl rfl rfl hI3.sl (Sl.of_blk bm (Rows.one rfl)) (by omega) fun p' c' w4 f4 o4 hp4 => ?_
    have hz3 := f03.size
    exact hk p' c' w4 o4 (fun b hb => (hp4 b hb).imp id fun h => by omega) ((f03.mono fun b h => .inl (.inl h)).trans f4 fun b hb => .inl (.inr hb))
  cases hks : s.keys with
  | nil =>
    rw [hks] at j4
    rw [decide_eq_false (by simp)]
    simp only [BIf_false]
    have : (([] : List Nat).headD 0 % 2 ^ B) = 0 := by simp
    rw [this] at j4
    exact j4 w2 b2 b12 f02
  | cons x ks =>
    rw [hks] at j4 h2' h4
    rw [decide_eq_true (by simp only [List.length_cons]; omega)]
    simp only [BIf_true]
    refine drw_intro fun w3 f3 z3 => ?_
    have b23 := b2.fr f3 id
    refine load_slice (i := 2) b23 rfl ?_
    simp only [NN_mk, Int.toNat_natCast]
    refine ⟨by omega, LoadT_slice.2 ⟨_, _, _, (f3.cell (cell_lt h2') id).trans h2', ?_⟩⟩
    obtain ⟨b, rfl, hc, hx64⟩ := h4 0 x rfl
    simp only [NN_mk]
    refine ⟨by simp only [List.length_cons]; omega, LoadT_int.2 ⟨_, (f3.cell (cell_lt hc) id).trans hc, ?_⟩⟩
    refine ⟨by omega, ?_⟩
    rw [and_mask hB hx64]
    simp only [show Int.toNat 0 = 0 from rfl, add0]
    have b13 := b12.fr f3 id
    refine store_intro (i := 0) b13 (by simp) rfl fun w4 b4 f4 z4 => ?_
    refine j4 w4 (b23.fr f4 fun e => hmn e.symm) b4 ((f02.trans f3 fun _ h => h.elim).trans f4 fun z h => .inr (by have : z = m := h; omega))
/-- trSteps, where nothing is to be sorted. -/
theorem F40_spec {k : Value → W} {w : World} {B c : Nat} {p : Option Addr} {ss : List Stp} (hB : Bits B) (h : StA w p ss) (hl : ss.length ≤ 2147483647) (hil : ∀ s ∈ ss, s.items.length ≤ 2147483647)
    (hk : ∀ op ol oc w', SlO StK w' op ol oc ((ss.take 60).map (stepOf B)) → (∀ b, bl op b → w.heap.size ≤ b) → Fr (fun _ => False) w w' → k (.slice op ol oc) w') : F40 k p ss.length c ((2 ^ B - 1 : Nat) : Int) false w := by
  unfold F40
  refine F40_L1_rule (fun lp ll lc m so op ol oc i w' => lp = p ∧ ll = ss.length ∧ lc = c ∧ m = ((2 ^ B - 1 : Nat) : Int) ∧ so = false ∧ ∃ j : Nat, i = j ∧ j ≤ ss.length ∧ j ≤ 60 ∧ ol = j ∧ SlO StK w' op ol oc ((ss.take j).map (stepOf B)) ∧ (∀ b, bl op b → w.heap.size ≤ b) ∧ Fr (fun _ => False) w w')
    (fun _ _ _ _ _ _ _ _ i _ => (60 - i).toNat) ?_ ⟨rfl, rfl, rfl, rfl, rfl, 0, rfl, Nat.zero_le _, Nat.zero_le _, rfl, SlO.nil _ _, (fun b ⟨_, h, _⟩ => by cases h), Fr.refl _ _⟩
  rintro lp ll lc m so op ol oc i w1 ⟨e1, rfl, e2, rfl, rfl, j, rfl, hj, hj6, rfl, hO, hop, f1⟩
  obtain rfl := e1.symm; obtain rfl := e2.symm
  unfold F40_L1
  have fin : (ol = ss.length ∨ ol = 60) → k (.slice op ol oc) w1 := fun hh => by
    refine hk op ol oc w1 ?_ hop f1
    have e : ss.take ol = ss.take 60 := by
      rcases hh with hh | hh
      · rw [List.take_of_length_le (by omega), List.take_of_length_le (by omega)]
      · rw [hh]
    rw [← e]; exact hO
  by_cases hlt : ol < ss.length
  rotate_left
  · rw [decide_eq_false (by omega)]
    simp only [BIf_false]
    exact fin (.inl (by omega))
  rw [decide_eq_true (by omega)]
  simp only [BIf_true]
  by_cases h60 : ol < 60
  rotate_left
  · rw [decide_eq_false (by omega)]
    simp only [BIf_false]
    exact fin (.inr (by omega))
  rw [decide_eq_true (by omega)]
  have hx : ss[ol]? = some ss[ol] := List.getElem?_eq_getElem hlt
  have hsl := hil _ (List.getElem_mem hlt)
  have h1A := h.fr0 f1
  obtain ⟨a, rfl, hs1⟩ := h1A ol _ hx
  have htk := take_snoc hx
  generalize ss[ol] = s at *
  obtain ⟨pi, ci, pk, ck, h0, h1, h2, h3, h4⟩ := hs1.ex
  simp only [BIf_true, NN_mk, Int.toNat_natCast]
  refine ⟨by omega, LoadT_int.2 ⟨_, h0, by decide, ?_⟩⟩
  refine new_intro fun n w2 e2 b2 f2 z2 => ?_
  have ht7 := tmod7 s.op
  have eop : addI .i64 1 (remI s.op 7) = 1 + s.op.tmod 7 := addI_i64 (show (-9223372036854775808 : Int) ≤ 1 + s.op.tmod 7 by omega) (show 1 + s.op.tmod 7 < (9223372036854775808 : Int) by omega)
  rw [eop]
  refine store_intro (i := 0) b2 (by simp) rfl fun w3 b3 f3 z3 => ?_
  refine store_intro (i := 1) b3 (by simp) rfl fun w4 b4 f4 z4 => ?_
  refine store_intro (i := 2) b4 (by simp) rfl fun w5 b5 f5 z5 => ?_
  have f25 : Fr (fun b => b = n) w2 w5 := (f3.trans f4 fun b h => .inl h).trans f5 fun b h => .inl h
  have hn1 : w1.heap.size = n := e2.symm
  have f15 : Fr (fun _ => False) w1 w5 := f2.trans f25 fun b h => .inr (by have : b = n := h; omega)
  refine load_int (i := 0) b5 rfl ?_
  have hopn : ∀ b, bl op b → b ≠ n := fun b hb => by have := hO.lt hb; omega
  -- the items
  have j2 : ∀ w6 again, Blk w6 n 33 [.int .i64 (opn s.op), .slice none 0 0, .slice none 0 0] → Fr (fun _ => False) w1 w6 →
      (∀ op' oc' w', SlO StK w' op' (ol + 1) oc' ((ss.take ol).map (stepOf B) ++ [stepOf B s]) → (∀ b, bl op' b → w.heap.size ≤ b) → Fr (fun _ => False) w w' → again (some a) ss.length c ((2 ^ B - 1 : Nat) : Int) false op' (ol + 1) oc' (addI .i64 (ol : Nat) 1) w') →
      F40_J2 k again (some a) ss.length c ((2 ^ B - 1 : Nat) : Int) false op ol oc (ol : Nat) ⟨n, 0, none⟩ w6 := fun w6 again b6 f16 hag => by
    have hO6 := hO.fr0 f16
    have hz16 := f16.size
    have hz1 := f1.size
    unfold F40_J2
    refine F40_L2_rule (fun lp ll lc' m so op' ol' oc' i' sd t w' => lp = some a ∧ ll = ss.length ∧ lc' = c ∧ m = ((2 ^ B - 1 : Nat) : Int) ∧ so = false ∧ op' = op ∧ ol' = ol ∧ oc' = oc ∧ i' = ((ol : Nat) : Int) ∧ sd = ⟨n, 0, none⟩ ∧ ∃ (t' : Nat) (ip : Option Addr) (ic : Nat), t = t' ∧ t' ≤ s.items.length ∧ t' ≤ 12 ∧ Blk w' n 33 [.int .i64 (opn s.op), .slice ip t' ic, .slice none 0 0] ∧ SlO ItK w' ip t' ic ((s.items.take t').map (msk B)) ∧ (∀ b, bl ip b → w6.heap.size ≤ b) ∧ Fr (fun b => b = n) w6 w')
      (fun _ _ _ _ _ _ _ _ _ _ t _ => (12 - t).toNat) ?_ ⟨rfl, rfl, rfl, rfl, rfl, rfl, rfl, rfl, rfl, rfl, 0, none, 0, rfl, Nat.zero_le _, Nat.zero_le _, b6, SlO.nil _ _, (fun b ⟨_, h, _⟩ => by cases h), Fr.refl _ _⟩
    rintro lp ll lc' m so op' ol' oc' i' sd t w7 ⟨rfl, rfl, e3, rfl, rfl, e4, e5, e6, rfl, rfl, t', ip, ic, rfl, htl, ht12, b7, oI, hip, f7⟩
    obtain rfl := e3.symm; obtain rfl := e4.symm; obtain rfl := e5.symm; obtain rfl := e6.symm
    have hn6 : n < w6.heap.size := b6.lt
    have f17 : Fr (fun b => b = n) w1 w7 := (f16.mono fun _ h => h.elim).trans f7 fun b h => .inl h
    have f17' : Fr (fun _ => False) w1 w7 := f17.mono fun b h => .inr (by have : b = n := h; omega)
    obtain ⟨a', ha', hs7⟩ := (h1A.fr0 f17') ol s hx
    cases ha'
    obtain ⟨pi', ci', pk', ck', g0, g1, g2, g3, g4⟩ := hs7.ex
    have tyn : Tys (fun b => b = n) w6 [33] := Tys.one b6
    have hO7 := hO6.fr' f7 (fun b hb e => hopn b hb e) fun b u us hS hu => by
      have := tyn b u us hS hu
      simp only [List.mem_singleton] at this
      subst this; decide
    have hz7 := f7.size
    -- behind the items
    have j3 : (t' = s.items.length ∨ t' = 12) → F40_J3 k again (some a) ss.length c ((2 ^ B - 1 : Nat) : Int) false op ol oc ((ol : Nat) : Int) ⟨n, 0, none⟩ w7 := fun hh => by
      have e : s.items.take t' = s.items.take 12 := by
        rcases hh with hh | hh
        · rw [List.take_of_length_le (by omega), List.take_of_length_le (by omega)]
        · rw [hh]
      have hlen : t' = ((s.items.take 12).map (msk B)).length := by rw [← e]; exact oI.len
      have b7' : Blk w7 n 33 [.int .i64 (opn s.op), .slice ip ((s.items.take 12).map (msk B)).length ic, .slice none 0 0] := by rw [← hlen]; exact b7
      have oI' : SlO ItK w7 ip ((s.items.take 12).map (msk B)).length ic ((s.items.take 12).map (msk B)) := by
        have := oI
        rw [e] at this
        rw [← hlen]; exact this
      refine F40_J3_spec (its' := (s.items.take 12).map (msk B)) (o := opn s.op) hB (h1A.fr0 f17') hx hl b7' oI' hO7 (by omega) hopn (fun w' f => ?_) fun op'' oc'' w8 o8 hp8 f8 => ?_
      · refine h1A.fr0 (f17'.trans f fun b hb => .inr ?_)
        rcases hb with hb | hb
        · omega
        · have := f17'.size; omega
      · refine hag op'' oc'' w8 o8 (fun b hb => ?_) ((f1.trans f17' fun _ h => h.elim).trans f8 fun b hb => .inr ?_)
        · rcases hp8 b hb with h | h
          · exact hop b h
          · omega
        · rcases hb with h | h
          · omega
          · exact hop b h
    unfold F40_L2
    simp only [NN_mk, Int.toNat_natCast]
    refine ⟨by omega, LoadT_slice.2 ⟨_, _, _, g1, ?_⟩⟩
    by_cases htt : t' < s.items.length
    rotate_left
    · rw [decide_eq_false (by omega)]
      simp only [BIf_false]
      exact j3 (.inl (by omega))
    rw [decide_eq_true (by omega)]
    simp only [BIf_true]
    by_cases ht2 : t' < 12
    rotate_left
    · rw [decide_eq_false (by omega)]
      simp only [BIf_false]
      exact j3 (.inr (by omega))
    rw [decide_eq_true (by omega)]
    have hit : s.items[t']? = some s.items[t'] := List.getElem?_eq_getElem htt
    obtain ⟨d, rfl, d0, d1, d64⟩ := g3 t' _ hit
    have htk2 := take_snoc hit
    generalize s.items[t'] = v at *
    simp only [BIf_true, NN_mk, Int.toNat_natCast]
    refine ⟨by omega, LoadT_slice.2 ⟨_, _, _, g1, ?_⟩⟩
    simp only [NN_mk, Int.toNat_natCast]
    refine ⟨by omega, LoadT_int.2 ⟨_, d0, LoadT_int.2 ⟨_, d1, ?_⟩⟩⟩
    refine new_intro fun n42 w8 e8 b8 f8 z8 => ?_
    refine store_intro (i := 0) b8 (by simp) rfl fun w9 b9 f9 z9 => ?_
    refine store_intro (i := 1) b9 (by simp) rfl fun wa ba fa za => ?_
    have f8a : Fr (fun b => b = n42) w8 wa := f9.trans fa fun b h => .inl h
    have f7a : Fr (fun _ => False) w7 wa := f8.trans f8a fun b h => .inr (by have : b = n42 := h; omega)
    have b7a := b7.fr f7a id
    simp only [add_mk, Nat.zero_add]
    refine load_slice (i := 1) b7a rfl (load_int (i := 0) ba rfl (load_int (i := 1) ba rfl ?_))
    rw [and_mask hB d64]
    refine bld_it (x := msk B v) rfl fun mm wb eb bb sb fb zb => ?_
    have oIb := (oI.fr0 f7a).fr0 fb
    refine app_it oIb bb (by omega) fun p' c' wc fc oc' hpc => ?_
    have hza := f7a.size
    have b7b := b7a.fr fb id
    have b7c := b7b.fr fc fun hb => by have := hip n hb; omega
    refine store_intro (i := 1) b7c (by simp) rfl fun wd bd fd zd => ?_
    rw [add_one (by omega)]
    have hpn : ∀ b, bl p' b → w6.heap.size ≤ b := fun b hb => by
      rcases hpc b hb with h | h
      · exact hip b h
      · omega
    refine ⟨⟨(by trivial), (by trivial), (by trivial), (by trivial), (by trivial), (by trivial), (by trivial), (by trivial), (by trivial), (by trivial), t' + 1, p', c', rfl, htt, ht2, bd, ?_, hpn, ?_⟩, by omega⟩
    · rw [htk2, List.map_append]
      exact oc'.fr' fd (fun b hb e => by have e : b = n := e; have := hpn b hb; omega) fun b u us hS hu hu2 => by cases hu2
    · exact (((f7.trans f7a fun _ h => h.elim).trans fb fun _ h => h.elim).trans fc fun b hb => .inr (hip b hb)).trans fd fun b h => .inl h
  -- the operation
  have stepB : ∀ {op' : Option Addr} {oc' : Nat} {w' : World}, SlO StK w' op' (ol + 1) oc' ((ss.take ol).map (stepOf B) ++ [stepOf B s]) → (∀ b, bl op' b → w.heap.size ≤ b) → Fr (fun _ => False) w w' →
      ((some a : Option Addr) = some a ∧ ss.length = ss.length ∧ c = c ∧ ((2 ^ B - 1 : Nat) : Int) = ((2 ^ B - 1 : Nat) : Int) ∧ false = false ∧ ∃ j : Nat, addI .i64 ((ol : Nat) : Int) 1 = j ∧ j ≤ ss.length ∧ j ≤ 60 ∧ ol + 1 = j ∧ SlO StK w' op' (ol + 1) oc' ((ss.take j).map (stepOf B)) ∧ (∀ b, bl op' b → w.heap.size ≤ b) ∧ Fr (fun _ => False) w w') ∧ (60 - addI .i64 ((ol : Nat) : Int) 1).toNat < (60 - ((ol : Nat) : Int)).toNat := fun {op' oc' w'} g1 g2 g3 => by
    rw [add_one (by omega)]
    refine ⟨⟨rfl, rfl, rfl, rfl, rfl, ol + 1, rfl, hlt, h60, rfl, ?_, g2, g3⟩, by omega⟩
    rw [htk, List.map_append]; exact g1
  have b5' : Blk w5 n 33 [.int .i64 (1 + s.op.tmod 7), .slice none 0 0, .slice none 0 0] := b5
  have j1t : opn s.op = 3 → ∀ again, (∀ op' oc' w', SlO StK w' op' (ol + 1) oc' ((ss.take ol).map (stepOf B) ++ [stepOf B s]) → (∀ b, bl op' b → w.heap.size ≤ b) → Fr (fun _ => False) w w' → again (some a) ss.length c ((2 ^ B - 1 : Nat) : Int) false op' (ol + 1) oc' (addI .i64 (ol : Nat) 1) w') → F40_J1 k again (some a) ss.length c ((2 ^ B - 1 : Nat) : Int) false op ol oc (ol : Nat) ⟨n, 0, none⟩ true w5 := fun ho again hag => by
    unfold F40_J1
    simp only [BIf_true]
    refine store_intro (i := 0) b5' (by simp) rfl fun w6 b6 f6 z6 => j2 w6 again ?_ (f15.trans f6 fun b h => .inr (by have : b = n := h; omega)) hag
    rw [ho]; exact b6
  have j1f : opn s.op = 1 + s.op.tmod 7 → ∀ again, (∀ op' oc' w', SlO StK w' op' (ol + 1) oc' ((ss.take ol).map (stepOf B) ++ [stepOf B s]) → (∀ b, bl op' b → w.heap.size ≤ b) → Fr (fun _ => False) w w' → again (some a) ss.length c ((2 ^ B - 1 : Nat) : Int) false op' (ol + 1) oc' (addI .i64 (ol : Nat) 1) w') → F40_J1 k again (some a) ss.length c ((2 ^ B - 1 : Nat) : Int) false op ol oc (ol : Nat) ⟨n, 0, none⟩ false w5 := fun ho again hag => by
    unfold F40_J1
    simp only [BIf_false]
    exact j2 w5 again (by rw [ho]; exact b5') f15 hag
  by_cases c1 : 1 + s.op.tmod 7 < 1
  · rw [decide_eq_true c1]
    simp only [BIf_true]
    exact j1t (if_pos (.inl c1)) _ fun op' oc' w' g1 g2 g3 => stepB g1 g2 g3
  rw [decide_eq_false c1]
  simp only [BIf_false]
  refine load_int (i := 0) b5' rfl ?_
  by_cases c2 : 1 + s.op.tmod 7 = 2
  · rw [show (1 + s.op.tmod 7 == 2) = true by rw [beq_iff_eq]; exact c2]
    simp only [BIf_true]
    exact j1t (if_pos (.inr (.inl c2))) _ fun op' oc' w' g1 g2 g3 => stepB g1 g2 g3
  rw [show (1 + s.op.tmod 7 == 2) = false by rw [beq_eq_false_iff_ne]; exact c2]
  simp only [BIf_false, Bool.not_false, BIf_true]
  refine load_int (i := 0) b5' rfl ?_
  by_cases c4 : 1 + s.op.tmod 7 = 4
  · rw [show (1 + s.op.tmod 7 == 4) = true by rw [beq_iff_eq]; exact c4]
    simp only [BIf_true]
    exact j1t (if_pos (.inr (.inr (.inl c4)))) _ fun op' oc' w' g1 g2 g3 => stepB g1 g2 g3
  rw [show (1 + s.op.tmod 7 == 4) = false by rw [beq_eq_false_iff_ne]; exact c4]
  simp only [BIf_false]
  refine load_int (i := 0) b5' rfl ?_
  by_cases c5 : 1 + s.op.tmod 7 > 5
  · rw [decide_eq_true c5]
    exact j1t (if_pos (.inr (.inr (.inr c5)))) _ fun op' oc' w' g1 g2 g3 => stepB g1 g2 g3
  · rw [decide_eq_false c5]
    exact j1f (if_neg (by omega)) _ fun op' oc' w' g1 g2 g3 => stepB g1 g2 g3
end Go.Proofs.YtaacaokocamlcaaDoor.E
