/-
  The same entries once more: plain, and the laws' functions.
-/
import Derived.Test.YtaacaokocamlcaaDoorLE
import Derived.Test.YtaacaokocamlcaaDoorFnsF
namespace Go.Proofs.YtaacaokocamlcaaDoor.E
open Go
set_option linter.unusedSimpArgs false
set_option linter.unusedVariables false
set_option maxRecDepth 100000
set_option maxHeartbeats 8000000

/-! ## Plain -/
def has (T : List Itm) (q : Nat) : Bool := T.any fun x => x.1 == q
theorem has_iff {T : List Itm} {q : Nat} : has T q = true ↔ ∃ x ∈ T, x.1 = q := by simp [has]
def turn : List Itm → List Itm
  | [] => []
  | y :: S => if has (turn S) y.1 then turn S else turn S ++ [y]
structure Tn (S T : List Itm) : Prop where
  dis : Dis T
  m : ∀ x ∈ T, ∀ s : PSt, (s.insAll S).m x.1 = some x.2
  key : ∀ q, (∃ x ∈ T, x.1 = q) ↔ ∃ x ∈ S, x.1 = q
theorem turn_tn : ∀ S : List Itm, Tn S (turn S)
  | [] => ⟨List.Pairwise.nil, (fun x h => by cases h), fun q => Iff.rfl⟩
  | y :: S => by
    have ih := turn_tn S
    have keep : ∀ x ∈ turn S, ∀ s : PSt, (s.insAll (y :: S)).m x.1 = some x.2 := fun x hx s => ih.m x hx (s.ins y)
    unfold turn
    by_cases h : has (turn S) y.1 = true
    · rw [if_pos h]
      refine ⟨ih.dis, keep, fun q => ?_⟩
      rw [ih.key]
      obtain ⟨z, hz, e⟩ := (ih.key y.1).1 (has_iff.1 h)
      constructor
      · rintro ⟨x, hx, e⟩; exact ⟨x, List.mem_cons_of_mem _ hx, e⟩
      · rintro ⟨x, hx, e2⟩
        rcases List.mem_cons.1 hx with rfl | hx
        · exact ⟨z, hz, e.trans e2⟩
        · exact ⟨x, hx, e2⟩
    · rw [if_neg h]
      have hno : ∀ x ∈ turn S, x.1 ≠ y.1 := fun x hx e => h (has_iff.2 ⟨x, hx, e⟩)
      have hnoS : ∀ x ∈ S, x.1 ≠ y.1 := fun x hx e => by
        obtain ⟨z, hz, e2⟩ := (ih.key y.1).2 ⟨x, hx, e⟩
        exact hno z hz e2
      refine ⟨List.pairwise_append.2 ⟨ih.dis, List.pairwise_singleton _ _, fun a ha b hb => by rw [List.mem_singleton] at hb; subst hb; exact hno a ha⟩, fun x hx s => ?_, fun q => ?_⟩
      · rcases List.mem_append.1 hx with hx | hx
        · exact keep x hx s
        · rw [List.mem_singleton] at hx
          subst hx
          show ((s.ins x).insAll S).m x.1 = _
          rw [insAll_old S _ _ hnoS]
          exact if_pos rfl
      · constructor
        · rintro ⟨x, hx, e⟩
          rcases List.mem_append.1 hx with hx | hx
          · obtain ⟨z, hz, e2⟩ := (ih.key q).1 ⟨x, hx, e⟩
            exact ⟨z, List.mem_cons_of_mem _ hz, e2⟩
          · rw [List.mem_singleton] at hx; subst hx; exact ⟨x, List.mem_cons_self .., e⟩
        · rintro ⟨x, hx, e⟩
          rcases List.mem_cons.1 hx with rfl | hx
          · exact ⟨x, List.mem_append_right _ (List.mem_singleton.2 rfl), e⟩
          · obtain ⟨z, hz, e2⟩ := (ih.key q).2 ⟨x, hx, e⟩
            exact ⟨z, List.mem_append_left _ hz, e2⟩
theorem dis_filter : ∀ {T : List Itm} {q : Nat}, Dis T → (∃ x ∈ T, x.1 = q) → T.length = (T.filter fun x => x.1 != q).length + 1
  | [], q, _, ⟨x, h, _⟩ => by cases h
  | y :: T, q, hD, ⟨x, hx, e⟩ => by
    obtain ⟨h1, h2⟩ := List.pairwise_cons.1 hD
    by_cases hy : y.1 = q
    · have hall : T.filter (fun x => x.1 != q) = T := List.filter_eq_self.2 fun z hz => by
        have := h1 z hz
        rw [hy] at this
        simp; exact this.symm
      rw [List.filter_cons_of_neg (by simp [hy]), hall]; rfl
    · have hx' : x ∈ T := (List.mem_cons.1 hx).resolve_left fun e2 => hy (by rw [← e2]; exact e)
      have := dis_filter h2 ⟨x, hx', e⟩
      rw [List.filter_cons_of_pos (by simp [hy]), List.length_cons, List.length_cons, this]
theorem num_of : ∀ (n : Nat) (L : List Itm) (T : List Itm), L.length = n → Dis T → (∀ q, (∃ x ∈ T, x.1 = q) ↔ (PSt.new.insAll L).m q ≠ none) → (PSt.new.insAll L).num = T.length
  | 0, L, T, hl, hD, hk => by
    have : L = [] := List.length_eq_zero_iff.1 hl
    subst this
    cases T with
    | nil => rfl
    | cons x T => exact absurd rfl ((hk x.1).1 ⟨x, List.mem_cons_self .., rfl⟩)
  | n + 1, L, T, hl, hD, hk => by
    obtain ⟨M, x, rfl⟩ : ∃ M x, L = M ++ [x] := ⟨L.dropLast, L.getLast (by intro e; rw [e] at hl; cases hl), (List.dropLast_concat_getLast _).symm⟩
    have hM : M.length = n := by simp at hl; exact hl
    rw [PSt.insAll_snoc] at hk ⊢
    generalize hs : PSt.new.insAll M = s at *
    have hm : ∀ q, (s.ins x).m q = if q = x.1 then some x.2 else s.m q := fun q => rfl
    show s.num + (if s.m x.1 = none then 1 else 0) = _
    by_cases h : s.m x.1 = none
    · rw [if_pos h]
      have hex : ∃ y ∈ T, y.1 = x.1 := (hk x.1).2 (by rw [hm, if_pos rfl]; simp)
      rw [dis_filter hD hex]
      congr 1
      rw [← hs]
      refine num_of n M _ hM (hD.sublist List.filter_sublist) fun q => ?_
      rw [hs]
      constructor
      · rintro ⟨y, hy, e⟩
        obtain ⟨hy, hne⟩ := List.mem_filter.1 hy
        have hq : q ≠ x.1 := fun e2 => by rw [e, e2] at hne; simp at hne
        have := (hk q).1 ⟨y, hy, e⟩
        rw [hm, if_neg hq] at this; exact this
      · intro h2
        have hq : q ≠ x.1 := fun e => by rw [e] at h2; exact h2 h
        obtain ⟨y, hy, e⟩ := (hk q).2 (by rw [hm, if_neg hq]; exact h2)
        exact ⟨y, List.mem_filter.2 ⟨hy, by simp; rw [e]; exact hq⟩, e⟩
    · rw [if_neg h, Nat.add_zero, ← hs]
      refine num_of n M T hM hD fun q => ?_
      rw [hk, hs, hm]
      by_cases hq : q = x.1
      · subst hq; rw [if_pos rfl]; simp [h]
      · rw [if_neg hq]
theorem insAll_dom : ∀ (L : List Itm) (s : PSt) (q : Nat), (s.insAll L).m q ≠ none ↔ s.m q ≠ none ∨ ∃ x ∈ L, x.1 = q
  | [], s, q => ⟨.inl, fun h => h.elim id fun ⟨x, h, _⟩ => by cases h⟩
  | y :: L, s, q => by
    show ((s.ins y).insAll L).m q ≠ none ↔ _
    rw [insAll_dom L]
    show (if q = y.1 then some y.2 else s.m q) ≠ none ∨ _ ↔ _
    by_cases hq : q = y.1
    · subst hq
      rw [if_pos rfl]
      exact ⟨fun _ => .inr ⟨y, List.mem_cons_self .., rfl⟩, fun _ => .inl (by simp)⟩
    · rw [if_neg hq]
      constructor
      · rintro (h | ⟨x, hx, e⟩)
        · exact .inl h
        · exact .inr ⟨x, List.mem_cons_of_mem _ hx, e⟩
      · rintro (h | ⟨x, hx, e⟩)
        · exact .inl h
        · rcases List.mem_cons.1 hx with rfl | hx
          · exact absurd e.symm hq
          · exact .inr ⟨x, hx, e⟩
theorem turn_num (L : List Itm) : (PSt.new.insAll L).num = (turn L).length :=
  num_of _ L _ rfl (turn_tn L).dis fun q => by
    rw [(turn_tn L).key, insAll_dom]
    exact ⟨.inr, fun h => h.resolve_left fun h => h rfl⟩
/-- Entries that are there, put once more. -/
theorem again_all : ∀ (T : List Itm) (s : PSt), Dis T → (∀ x ∈ T, s.m x.1 = some x.2) → (ovs s T).filterMap id = T ∧ (s.insAll T).num = s.num
  | [], s, _, _ => ⟨rfl, rfl⟩
  | y :: T, s, hD, h => by
    obtain ⟨h1, h2⟩ := List.pairwise_cons.1 hD
    have hy := h y (List.mem_cons_self ..)
    obtain ⟨g1, g2⟩ := again_all T (s.ins y) h2 fun x hx => by
      show (if x.1 = y.1 then some y.2 else s.m x.1) = _
      rw [if_neg (h1 x hx).symm]; exact h x (List.mem_cons_of_mem _ hx)
    refine ⟨?_, ?_⟩
    · show List.filterMap id (((s.m y.1).map fun v => (y.1, v)) :: ovs (s.ins y) T) = _
      rw [hy]
      show (y.1, y.2) :: List.filterMap id (ovs (s.ins y) T) = _
      rw [g1]
    · show ((s.ins y).insAll T).num = _
      rw [g2]
      show s.num + (if s.m y.1 = none then 1 else 0) = _
      rw [hy, if_neg (by simp)]; rfl
def ones (L : List Itm) : List Stp := L.map fun x => ⟨1, [x], [0]⟩
theorem yend_ones : ∀ (L : List Itm) (s : PSt), yend s (ones L) = s.insAll L
  | [], s => rfl
  | x :: L, s => by
    show yend (s.ins x) (ones L) = (s.ins x).insAll L
    exact yend_ones L _
theorem tot_ones : ∀ L : List Itm, tot (ones L) = L.length
  | [] => rfl
  | x :: L => by
    show (ones L).foldl _ (0 + 1) = _
    rw [tot_from, tot_ones L, List.length_cons]; omega
theorem yrun_again (L : List Itm) : yrun PSt.new (ones L ++ [(⟨5, [], [0]⟩ : Stp), ⟨1, turn L, [0]⟩, ⟨5, [], [0]⟩]) = yrun PSt.new (ones L) ++ [(⟨[], (turn L).length, false⟩ : An), ⟨turn L, 0, false⟩, ⟨[], (turn L).length, false⟩] := by
  rw [yrun_append, yend_ones]
  have hT := turn_tn L
  obtain ⟨h1, h2⟩ := again_all (turn L) (PSt.new.insAll L) hT.dis fun x hx => hT.m x hx _
  show _ ++ [(⟨[], (PSt.new.insAll L).num, false⟩ : An), ⟨(ovs (PSt.new.insAll L) (turn L)).filterMap id, 0, false⟩, ⟨[], ((PSt.new.insAll L).insAll (turn L)).num, false⟩] = _
  rw [h1, h2, turn_num]
/-! ## Walks -/
/-- Entries that came in. -/
def ItA (w : World) (p : Option Addr) (xs : List Itm) : Prop := ∀ i x, xs[i]? = some x → ∃ a, p = some a ∧ w.cell? (a.add (i * 2)) = some (.int .u64 (x.1 : Nat)) ∧ w.cell? ((a.add (i * 2)).add 1) = some (.int .i64 x.2) ∧ x.1 < 18446744073709551616
theorem ItA.fr0 {w w' : World} {p : Option Addr} {xs : List Itm} (h : ItA w p xs) (f : Fr (fun _ => False) w w') : ItA w' p xs := fun i x hx => by
  obtain ⟨a, h1, h2, h3, h4⟩ := h i x hx
  exact ⟨a, h1, (f.cell (cell_lt h2) id).trans h2, (f.cell (cell_lt h3) id).trans h3, h4⟩
def msk (B : Nat) (x : Itm) : Itm := (x.1 % 2 ^ B, x.2)
theorem and_mask {B x : Nat} (h : Bits B) (hx : x < 18446744073709551616) : andI .u64 (x : Nat) ((2 ^ B - 1 : Nat) : Int) = ((x % 2 ^ B : Nat) : Int) := by
  have hp : 0 < 2 ^ B := Nat.pow_pos (by decide)
  have hp2 : 2 ^ B ≤ 18446744073709551616 := Nat.pow_le_pow_right (n := 2) (by decide) (bits_le h)
  rw [andI_nat hx (by omega), Nat.and_two_pow_sub_one_eq_mod]
/-- trItems. -/
theorem F12_spec {k : Value → W} {w : World} {B c : Nat} {p : Option Addr} {xs : List Itm} (hB : Bits B) (h : ItA w p xs) (hl : xs.length < 4000000000) (hk : ∀ op ol oc w', SlO ItK w' op ol oc ((xs.take 60).map (msk B)) → (∀ b, bl op b → w.heap.size ≤ b) → Fr (fun _ => False) w w' → k (.slice op ol oc) w') :
    F12 k p xs.length c ((2 ^ B - 1 : Nat) : Int) w := by
  unfold F12
  refine F12_L1_rule (fun lp ll lc m op ol oc i w' => lp = p ∧ ll = xs.length ∧ m = ((2 ^ B - 1 : Nat) : Int) ∧ ∃ j : Nat, i = j ∧ j ≤ xs.length ∧ j ≤ 60 ∧ ol = j ∧ SlO ItK w' op ol oc ((xs.take j).map (msk B)) ∧ (∀ b, bl op b → w.heap.size ≤ b) ∧ Fr (fun _ => False) w w')
    (fun _ _ _ _ _ _ _ i _ => (60 - i).toNat) ?_ ⟨rfl, rfl, rfl, 0, rfl, Nat.zero_le _, Nat.zero_le _, rfl, SlO.nil _ _, (fun b ⟨_, h, _⟩ => by cases h), Fr.refl _ _⟩
  rintro lp ll lc m op ol oc i w1 ⟨e1, rfl, rfl, j, rfl, hj, hj6, rfl, hO, hop, f1⟩
  obtain rfl := e1.symm
  unfold F12_L1
  have fin : (ol = xs.length ∨ ol = 60) → k (.slice op ol oc) w1 := fun hh => by
    refine hk op ol oc w1 ?_ hop f1
    have e : xs.take ol = xs.take 60 := by
      rcases hh with hh | hh
      · rw [List.take_of_length_le (by omega), List.take_of_length_le (by omega)]
      · rw [hh]
    rw [← e]; exact hO
  by_cases hlt : ol < xs.length
  rotate_left
  · rw [decide_eq_false (by omega)]
    simp only [BIf_false]
    exact fin (.inl (by omega))
  rw [decide_eq_true (by omega)]
  simp only [BIf_true]
  by_cases h60 : ol < 60
  rotate_left
  · rw [decide_eq_false (by omega)]
    simp only [BIf_false]
    exact fin (.inr (by omega))
  rw [decide_eq_true (by omega)]
  simp only [BIf_true]
  refine drw_intro fun w2 f2 z2 => ?_
  have f02 := f1.trans f2 fun _ h => h.elim
  have hx : xs[ol]? = some xs[ol] := List.getElem?_eq_getElem hlt
  obtain ⟨a, rfl, c0, c1, hlt64⟩ := (h.fr0 f02) ol _ hx
  have htk := take_snoc hx
  generalize xs[ol] = v at *
  simp only [NN_mk, Int.toNat_natCast]
  refine ⟨by omega, LoadT_int.2 ⟨_, c0, ?_⟩⟩
  refine ⟨by omega, LoadT_int.2 ⟨_, c1, ?_⟩⟩
  rw [and_mask hB hlt64]
  refine bld_it (x := msk B v) rfl fun mm w3 e3 b3 s3 f3 z3 => ?_
  refine ⟨(f3.cell (cell_lt c1) id).trans c1, (f3.cell (cell_lt c0) id).trans c0, ?_⟩
  refine app_it ((hO.fr0 f2).fr0 f3) b3 (by omega) fun p' c' w4 f4 o4 hp4 => ?_
  have hz1 := f1.size
  have f04 : Fr (fun _ => False) w w4 := (f02.trans f3 fun _ h => h.elim).trans f4 fun b hb => .inr (hop b hb)
  obtain ⟨a', ha', d0, d1, _⟩ := (h.fr0 f04) ol _ hx
  cases ha'
  refine ⟨d1, d0, ?_⟩
  rw [add_one (by omega)]
  refine ⟨⟨(by trivial), (by trivial), (by trivial), ol + 1, rfl, hlt, h60, rfl, ?_, fun b hb => ?_, f04⟩, by omega⟩
  · rw [htk, List.map_append]; exact o4
  · rcases hp4 b hb with h | h
    · exact hop b h
    · omega
/-- trTurned. -/
theorem F14_spec {k : Value → W} {w : World} {c : Nat} {p : Option Addr} {xs : List Itm} (h : Sl ItK w p xs) (hl : xs.length < 1000) (hk : ∀ op ol oc w', SlO ItK w' op ol oc (turn xs) → (∀ b, bl op b → w.heap.size ≤ b) → Fr (fun _ => False) w w' → k (.slice op ol oc) w') : F14 k p xs.length c w := by
  unfold F14
  refine bind_intro ?_
  have e0 : subI .i64 ((xs.length : Nat) : Int) 1 = ((xs.length : Nat) : Int) - 1 := subI_i64 (by omega) (by omega)
  rw [e0]
  refine F14_L1_rule (fun lp ll lc op ol oc i w' => lp = p ∧ ll = xs.length ∧ lc = c ∧ ∃ j : Nat, i = (j : Int) - 1 ∧ j ≤ xs.length ∧ SlO ItK w' op ol oc (turn (xs.drop j)) ∧ ol + j ≤ xs.length ∧ (∀ b, bl op b → w.heap.size ≤ b) ∧ Fr (fun _ => False) w w')
    (fun _ _ _ _ _ _ i _ => (i + 1).toNat) ?_ ⟨rfl, rfl, rfl, xs.length, rfl, Nat.le_refl _, by rw [List.drop_length]; exact SlO.nil _ _, by omega, (fun b ⟨_, h, _⟩ => by cases h), Fr.refl _ _⟩
  rintro lp ll lc op ol oc i w1 ⟨e1, rfl, e2, j, rfl, hj, hO, hol, hop, f1⟩
  obtain rfl := e1.symm; obtain rfl := e2.symm
  unfold F14_L1
  cases j with
  | zero =>
    rw [decide_eq_false (by omega)]
    simp only [BIf_false]
    exact hk op ol oc w1 hO hop f1
  | succ j =>
    rw [decide_eq_true (by omega), show (((j + 1 : Nat) : Int) - 1) = ((j : Nat) : Int) by omega]
    simp only [BIf_true]
    have hx : xs[j]? = some xs[j] := List.getElem?_eq_getElem (by omega)
    have hdr : xs.drop j = xs[j] :: xs.drop (j + 1) := List.drop_eq_getElem_cons (by omega)
    have hlen := hO.len
    generalize hT : turn (xs.drop (j + 1)) = T at *
    refine F14_L2_rule (fun lp ll lc op' ol' oc' i' th t w' => lp = p ∧ ll = xs.length ∧ lc = c ∧ op' = op ∧ ol' = ol ∧ oc' = oc ∧ i' = ((j : Nat) : Int) ∧ ∃ t' : Nat, t = t' ∧ t' ≤ T.length ∧ th = has (T.take t') xs[j].1 ∧ Fr (fun _ => False) w1 w')
      (fun _ _ _ _ ol' _ _ _ t _ => ((ol' : Int) - t).toNat) ?_ ⟨rfl, rfl, rfl, rfl, rfl, rfl, rfl, 0, rfl, Nat.zero_le _, rfl, Fr.refl _ _⟩
    rintro lp ll lc op' ol' oc' i' th t w2 ⟨e3, rfl, e4, e5, e6, e7, rfl, t', rfl, ht, rfl, f2⟩
    obtain rfl := e3.symm; obtain rfl := e4.symm; obtain rfl := e5.symm; obtain rfl := e6.symm; obtain rfl := e7.symm
    unfold F14_L2
    have f02 := f1.trans f2 fun _ h => h.elim
    have hO2 := hO.fr0 f2
    by_cases htl : t' < T.length
    · rw [decide_eq_true (by omega)]
      simp only [BIf_true]
      refine drw_intro fun w3 f3 z3 => ?_
      have f23 := f2.trans f3 fun _ h => h.elim
      have f03 := f1.trans f23 fun _ h => h.elim
      have ht' : T[t']? = some T[t'] := List.getElem?_eq_getElem htl
      have hstep : has (T.take (t' + 1)) xs[j].1 = (has (T.take t') xs[j].1 || (T[t'].1 == xs[j].1)) := by
        unfold has
        rw [take_snoc ht', List.any_append]
        simp only [List.any_cons, List.any_nil, Bool.or_false]
      rw [add_one (by omega)]
      cases hh : has (T.take t') xs[j].1 with
      | true =>
        simp only [BIf_true]
        exact ⟨⟨(by trivial), (by trivial), (by trivial), (by trivial), (by trivial), (by trivial), (by trivial), t' + 1, rfl, htl, by rw [hstep, hh]; rfl, f23⟩, by omega⟩
      | false =>
        obtain ⟨q, o, rfl, c0, c1⟩ := (hO2.fr0 f3).sl.get ht'
        obtain ⟨q', o', rfl, d0, d1⟩ := (h.fr0 f03).get hx
        simp only [BIf_false, NN_mk, Int.toNat_natCast, add_mk]
        refine ⟨by omega, LoadT_int.2 ⟨_, c0, ?_⟩⟩
        refine ⟨by omega, LoadT_int.2 ⟨_, d0, ?_⟩⟩
        refine ⟨⟨(by trivial), (by trivial), (by trivial), (by trivial), (by trivial), (by trivial), (by trivial), t' + 1, rfl, htl, ?_, f23⟩, by omega⟩
        rw [hstep, hh, Bool.false_or]
        rw [Bool.eq_iff_iff]; simp; omega
    · have : t' = T.length := by omega
      subst this
      rw [decide_eq_false (by omega), List.take_length]
      simp only [BIf_false]
      have e9 : subI .i64 ((j : Nat) : Int) 1 = ((j : Nat) : Int) - 1 := subI_i64 (by omega) (by omega)
      rw [e9]
      have hturn : turn (xs.drop j) = if has T xs[j].1 then T else T ++ [xs[j]] := by rw [hdr]; unfold turn; rw [hT]
      cases hh : has T xs[j].1 with
      | true =>
        simp only [Bool.not_true, BIf_false]
        refine ⟨⟨(by trivial), (by trivial), (by trivial), j, rfl, by omega, ?_, by omega, hop, f02⟩, by omega⟩
        rw [hturn, hh, if_pos rfl]; exact hO2
      | false =>
        obtain ⟨q', o', rfl, d0, d1⟩ := (h.fr0 f02).get hx
        generalize xs[j] = v at *
        simp only [Bool.not_false, BIf_true, NN_mk, Int.toNat_natCast, add_mk]
        refine ⟨by omega, LoadT_int.2 ⟨_, d0, LoadT_int.2 ⟨_, d1, ?_⟩⟩⟩
        refine bld_it (x := v) rfl fun mm w3 e3 b3 s3 f3 z3 => ?_
        refine app_it (hO2.fr0 f3) b3 (by omega) fun p' c' w4 f4 o4 hp4 => ?_
        have hz2 := f02.size
        refine ⟨⟨(by trivial), (by trivial), (by trivial), j, rfl, by omega, ?_, by omega, fun b hb => ?_, (f02.trans f3 fun _ h => h.elim).trans f4 fun b hb => .inr (hop b hb)⟩, by omega⟩
        · rw [hturn, hh, if_neg (by decide)]; exact o4
        · rcases hp4 b hb with h | h
          · exact hop b h
          · omega
/-- trOnes. -/
theorem F16_spec {k : Value → W} {w : World} {c : Nat} {p : Option Addr} {xs : List Itm} (h : Sl ItK w p xs) (hc : xs.length ≤ c) (hl : xs.length < 1000) (hk : ∀ op oc w', SlO StK w' op xs.length oc (ones xs) → (∀ b, bl op b → w.heap.size ≤ b) → Fr (fun _ => False) w w' → k (.slice op xs.length oc) w') : F16 k p xs.length c w := by
  unfold F16
  refine F16_L1_rule (fun lp ll lc op ol oc i w' => lp = p ∧ ll = xs.length ∧ lc = c ∧ ∃ j : Nat, i = j ∧ j ≤ xs.length ∧ ol = j ∧ SlO StK w' op ol oc (ones (xs.take j)) ∧ (∀ b, bl op b → w.heap.size ≤ b) ∧ Fr (fun _ => False) w w')
    (fun _ ll _ _ _ _ i _ => ((ll : Int) - i).toNat) ?_ ⟨rfl, rfl, rfl, 0, rfl, Nat.zero_le _, rfl, SlO.nil _ _, (fun b ⟨_, h, _⟩ => by cases h), Fr.refl _ _⟩
  rintro lp ll lc op ol oc i w1 ⟨e1, rfl, e2, j, rfl, hj, rfl, hO, hop, f1⟩
  obtain rfl := e1.symm; obtain rfl := e2.symm
  unfold F16_L1
  by_cases hlt : ol < xs.length
  rotate_left
  · have : ol = xs.length := by omega
    subst this
    rw [decide_eq_false (by omega)]
    simp only [BIf_false]
    rw [List.take_length] at hO
    exact hk op oc w1 hO hop f1
  rw [decide_eq_true (by omega)]
  have hx : xs[ol]? = some xs[ol] := List.getElem?_eq_getElem hlt
  simp only [BIf_true]
  rw [add_one (by omega)]
  simp only [Int.toNat_natCast]
  refine ⟨by omega, by omega, ?_⟩
  refine bld_ky (x := 0) rfl fun mm w2 e2 b2 s2 f2 z2 => ?_
  have hs : Sl ItK w2 (sliceA p ol c 2) [xs[ol]] := by
    have := (((h.fr0 f1).fr0 f2).drop (n := ol) (c := c) hc).take 1
    rw [List.drop_eq_getElem_cons hlt] at this
    exact this
  refine add_st (s := ⟨1, [xs[ol]], [0]⟩) (hO.fr0 f2) rfl (by simp) rfl hs s2 (by omega) fun p' c' w3 f3 o3 hp3 => ?_
  have hz1 := f1.size
  refine ⟨⟨(by trivial), (by trivial), (by trivial), ol + 1, rfl, hlt, rfl, ?_, fun b hb => ?_, (f1.trans f2 fun _ h => h.elim).trans f3 fun b hb => .inr (hop b hb)⟩, by omega⟩
  · rw [take_snoc hx]; unfold ones; rw [List.map_append]; exact o3
  · rcases hp3 b hb with h | h
    · exact hop b h
    · omega
end Go.Proofs.YtaacaokocamlcaaDoor.E
