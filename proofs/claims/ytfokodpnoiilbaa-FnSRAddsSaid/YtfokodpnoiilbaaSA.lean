/-
  Skip lists: a step.
-/
import Derived.Test.YtfokodpnoiilbaaS9
namespace Go.Proofs.Ytfokodpnoiilbaa.E
open Go
set_option linter.unusedSimpArgs false
set_option linter.unusedVariables false
set_option maxRecDepth 100000
set_option maxHeartbeats 8000000

theorem kps_len (a : Ans) (os : List (Option Itm)) : (a.kps os).items.length = a.items.length + os.length ∧ (a.kps os).is.length = a.is.length + os.length := by
  unfold Ans.kps; simp
/-- keepAll. -/
theorem F40_spec {k : Value → W} {w : World} {base n : Nat} {a : Ans} {os : List (Option Itm)} {p : Option Addr} {c : Nat} (A : AnB w base n a) (hO : Own w 114 p os.length c (os.map encO)) (hl : a.items.length + os.length < 4000000000) (hl2 : a.is.length + os.length < 4000000000)
    (hk : ∀ w', AnB w' base n (a.kps os) → FrB base w w' → k (.tuple #[]) w') : F40 k (some ⟨n, 0, none⟩) p os.length c w := by
  unfold F40
  refine F40_L1_rule (I := fun n' ip il ic m j w' => n' = some ⟨n, 0, none⟩ ∧ ip = p ∧ il = os.length ∧ ic = c ∧ m = ((os.length : Nat) : Int) ∧ ∃ t : Nat, j = ((t : Nat) : Int) ∧ t ≤ os.length ∧ AnB w' base n (a.kps (os.take t)) ∧ FrB base w w')
    (μ := fun n' ip il ic m j w' => os.length - j.toNat) ?_ ⟨rfl, rfl, rfl, rfl, rfl, 0, rfl, Nat.zero_le _, by
      have : a.kps [] = a := by unfold Ans.kps; simp
      rw [List.take_zero, this]; exact A, FrB.refl _ _⟩
  rintro _ _ il ic m j w1 ⟨rfl, rfl, e1, e2, rfl, t, rfl, ht, A1, f1⟩
  unfold F40_L1
  rw [e1]
  by_cases hlt : t < os.length
  · rw [decide_eq_true (show ((t : Nat) : Int) < ((os.length : Nat) : Int) by omega), BIf_true]
    have hx : os[t]? = some os[t] := List.getElem?_eq_getElem hlt
    obtain ⟨S, fS, TS, BS⟩ := id f1
    have hI := hO.fr fS (own_not hO TS (by decide))
    obtain ⟨q, rest, rfl, hB, _, _⟩ := hI.get (by omega)
    rw [NN_mk, Req_iff, Int.toNat_natCast, add_mk, Nat.zero_add]
    refine ⟨⟨by omega, by omega⟩, load_any (v := encO os[t]) hB (by rw [List.getElem?_append_left (by simpa using hlt), List.getElem?_map, hx]; rfl) ?_⟩
    have hk1 := kps_len a (os.take t)
    rw [List.length_take] at hk1
    refine F46_call (F46_spec A1 (by omega) (by omega) fun w2 A2 f2 => back0 ?_)
    rw [add64 (by omega)]
    refine ⟨⟨rfl, rfl, rfl, e2, rfl, t + 1, rfl, hlt, by rw [take_snoc hx, Ans.kps_snoc]; exact A2, f1.trans f2⟩, ?_⟩
    show os.length - ((t + 1 : Nat) : Int).toNat < os.length - ((t : Nat) : Int).toNat
    omega
  · rw [decide_eq_false (show ¬ ((t : Nat) : Int) < ((os.length : Nat) : Int) by omega), BIf_false]
    have : t = os.length := by omega
    subst this
    rw [List.take_length] at A1
    exact hk w1 A1 f1
/-- skipItems. -/
theorem F42_spec {k : Value → W} {w : World} {xs : List Itm} {p : Option Addr} {c : Nat} (hS : Sl ItK w p xs) (hl : xs.length < 4000000000)
    (hk : ∀ w' p' c', Own w' 114 p' xs.length c' (xs.map enc) → (∀ b, bl p' b → w.heap.size ≤ b) → Fr (fun _ => False) w w' → k (.slice p' xs.length c') w') : F42 k p xs.length c w := by
  obtain ⟨i, g1, g2, g3, g4⟩ := inf114
  unfold F42
  refine F42_L1_rule (I := fun op ol oc ip il ic m j w' => ip = p ∧ il = xs.length ∧ ic = c ∧ m = ((xs.length : Nat) : Int) ∧ ∃ t : Nat, j = ((t : Nat) : Int) ∧ t ≤ xs.length ∧ ol = t ∧ Own w' 114 op ol oc ((xs.take t).map enc) ∧ (∀ b, bl op b → w.heap.size ≤ b) ∧ Fr (fun _ => False) w w')
    (μ := fun op ol oc ip il ic m j w' => xs.length - j.toNat) ?_ ⟨rfl, rfl, rfl, rfl, 0, rfl, Nat.zero_le _, rfl, Own.nil _ _, (fun b ⟨_, h, _⟩ => by cases h), Fr.refl _ _⟩
  rintro op ol oc _ il ic m j w1 ⟨rfl, e1, e2, rfl, t, rfl, ht, rfl, oL, hop, f1⟩
  unfold F42_L1
  rw [e1]
  by_cases hlt : ol < xs.length
  · rw [decide_eq_true (show ((ol : Nat) : Int) < ((xs.length : Nat) : Int) by omega), BIf_true]
    have hx : xs[ol]? = some xs[ol] := List.getElem?_eq_getElem hlt
    obtain ⟨q, o, rfl, h0, h1⟩ := (hS.fr0 f1).get hx
    simp only [NN_mk, Int.toNat_natCast, add_mk]
    refine ⟨by omega, LoadT_int.2 ⟨_, h0, LoadT_int.2 ⟨_, h1, ?_⟩⟩⟩
    refine new_intro fun n w2 e2 b2 f2 z2 => ?_
    refine store_intro (i := 0) b2 (by simp) rfl fun w3 b3 f3 z3 => ?_
    refine store_intro (i := 1) b3 (by simp) rfl fun w4 b4 f4 z4 => ?_
    refine load_int (i := 0) b4 rfl (load_int (i := 1) b4 rfl ?_)
    have f14 : Fr (fun _ => False) w1 w4 := ((f2.mono (S' := fun b => b = n) fun _ h => h.elim).trans f3 fun b h => .inl h).trans f4 (fun b h => .inl h) |>.mono fun b h => .inr (by have h : b = n := h; omega)
    have oL4 := oL.fr f14 fun _ _ h => h
    have hz1 := f1.size
    have hz14 := f14.size
    refine append1 (P := Try.prog) und109 g1 g3 g2 rfl g4 oL4 (v := enc xs[ol]) rfl rfl (by omega) fun p' c' w5 f5 o5 hp5 hz5 => ?_
    rw [add64 (by omega)]
    refine ⟨⟨by trivial, by trivial, by assumption, by trivial, ol + 1, by trivial, hlt, rfl, ?_, fun b hb => ?_, (f1.trans f14 fun _ h => h.elim).trans f5 fun b hb => .inr (hop b hb)⟩, ?_⟩
    · rw [take_snoc hx, List.map_append]; exact o5
    · rcases hp5 b hb with h | h
      · exact hop b h
      · omega
    · show xs.length - ((ol + 1 : Nat) : Int).toNat < xs.length - ((ol : Nat) : Int).toNat
      omega
  · rw [decide_eq_false (show ¬ ((ol : Nat) : Int) < ((xs.length : Nat) : Int) by omega), BIf_false]
    have : ol = xs.length := by omega
    subst this
    rw [List.take_length] at oL
    exact hk w1 op oc oL hop f1
/-- skipFirst. -/
theorem F45_spec {k : Value → W} {w : World} {xs : List Itm} {p : Option Addr} {c : Nat} (hS : Sl ItK w p xs)
    (hk : ∀ w', Fr (fun _ => False) w w' → k (.agg #[.int .i64 (xs.headD (0, 0)).1, .int .i64 (xs.headD (0, 0)).2]) w') : F45 k p xs.length c w := by
  unfold F45
  refine new_intro fun n w1 e1 b1 f1 z1 => ?_
  have fin : ∀ {w2 w3 : World}, Fr (fun b => b = n) w1 w2 → Fr (fun b => b = n) w2 w3 → Fr (fun _ => False) w w3 := fun f2 f3 => (f1.trans (f2.trans f3 fun _ h => .inl h) fun b h => .inr (by have h : b = n := h; omega))
  cases xs with
  | nil =>
    rw [show (((([] : List Itm).length : Nat) : Int) == 0) = true from rfl, BIf_true]
    refine store_intro (i := 0) b1 (by simp) rfl fun w2 b2 f2 z2 => ?_
    refine store_intro (i := 1) b2 (by simp) rfl fun w3 b3 f3 z3 => ?_
    exact load_int (i := 0) b3 rfl (load_int (i := 1) b3 rfl (hk w3 (fin f2 f3)))
  | cons x xs =>
    obtain ⟨q, o, rfl, h0, h1⟩ := (hS.fr0 f1).get (i := 0) (x := x) rfl
    rw [show ((((x :: xs).length : Nat) : Int) == 0) = false by rw [beq_eq_false_iff_ne]; simp only [List.length_cons]; omega, BIf_false]
    simp only [NN_mk, add_mk]
    refine ⟨by simp only [List.length_cons]; omega, LoadT_int.2 ⟨_, h0, LoadT_int.2 ⟨_, h1, ?_⟩⟩⟩
    refine store_intro (i := 0) b1 (by simp) rfl fun w2 b2 f2 z2 => ?_
    refine store_intro (i := 1) b2 (by simp) rfl fun w3 b3 f3 z3 => ?_
    exact load_int (i := 0) b3 rfl (load_int (i := 1) b3 rfl (hk w3 (fin f2 f3)))

theorem methN (p : Option Addr) (w : World) : (callMethod (.iface 169 (.pointer p)) "Next" [].toArray).run Try.prog w = .ok (.enter 139 #[.pointer p]) w := by kernel_rfl
theorem methV (p : Option Addr) (w : World) : (callMethod (.iface 169 (.pointer p)) "Value" [].toArray).run Try.prog w = .ok (.enter 140 #[.pointer p]) w := by kernel_rfl
def ansR (R : List Itm) : Ans := ⟨R, R.map fun _ => true, 0⟩
theorem ansR_snoc (R : List Itm) (x : Itm) : ansR (R ++ [x]) = (ansR R).kp (some x) := by unfold ansR Ans.kp; simp
theorem FrB.fr' {base : Nat} {w w' : World} (h : FrB base w w') : Fr (fun b => base ≤ b) w w' := h.fr fun b hb => .inl hb
/-- walk. -/
theorem F48_spec {k : Value → W} {w : World} {base n sl it m : Nat} {F : Nat → Prop} {l R : List Itm} {b : Bool} {rest : List Value} (A : AnB w base n (ansR [])) (K : SKI keyE w sl F (l.map enc) it b rest) (hR : (if b then rest else rest.tail) = R.map enc) (hbase : base ≤ it) (hm : m < 4000000000)
    (hk : ∀ w', AnB w' base n (ansR (R.take m)) → SK keyE w' sl F (l.map enc) → Fr (fun b => base ≤ b) w w' → k (.tuple #[]) w') : F48 k (some ⟨n, 0, none⟩) (.iface 169 (.pointer (some ⟨it, 0, none⟩))) ((m : Nat) : Int) w := by
  unfold F48
  refine F48_L1_rule (I := fun n' it' m' w' => n' = some ⟨n, 0, none⟩ ∧ it' = .iface 169 (.pointer (some ⟨it, 0, none⟩)) ∧ m' = ((m : Nat) : Int) ∧ ∃ (t : Nat) (b' : Bool) (rest' : List Value), t ≤ m ∧ t ≤ R.length ∧ AnB w' base n (ansR (R.take t)) ∧ SKI keyE w' sl F (l.map enc) it b' rest' ∧
      (if b' then rest' else rest'.tail) = (R.drop t).map enc ∧ Fr (fun b => base ≤ b) w w')
    (μ := fun n' it' m' w' => match w'.cell? ⟨n, 0, none⟩ with | some (.slice _ ln _) => m - ln | _ => 0) ?_ ⟨rfl, rfl, rfl, 0, b, rest, Nat.zero_le _, Nat.zero_le _, A, K, hR, Fr.refl _ _⟩
  rintro _ _ _ w1 ⟨rfl, rfl, rfl, t, b1, r1, ht, htR, A1, K1, hr1, f1⟩
  obtain ⟨pi, ci, ph, ch, hB, hI, hH, h1, h2, h3⟩ := id A1
  have hlen : (ansR (R.take t)).items.length = t := by show (R.take t).length = t; rw [List.length_take]; omega
  unfold F48_L1
  rw [NN_mk]
  refine load_slice (i := 0) hB rfl ?_
  rw [hlen]
  by_cases htm : t < m
  · rw [decide_eq_true (show ((t : Nat) : Int) < ((m : Nat) : Int) by omega), BIf_true]
    refine NextT_enter (methN _ w1) (F139_calls (F139_spec K1 fun w2 K2 f2 => back_bool ?_))
    obtain ⟨ns, g, M, L, h, cb, pb, d, c, cur, A', s, _, _, _, _, hBi⟩ := id K1
    have T2 : Tys (fun x => x = it) w1 [198] := Tys.one hBi
    have A2 := A1.fr_ty f2 T2 (by decide)
    have f02 : Fr (fun b => base ≤ b) w w2 := f1.trans f2 fun b hb => .inl (by rw [show b = it from hb]; exact hbase)
    rw [hr1] at K2 ⊢
    cases hd : R.drop t with
    | nil =>
      rw [List.map_nil, decide_eq_false (by simp), BIf_false]
      have hRt : R.length ≤ t := List.drop_eq_nil_iff.1 hd
      have e1 : R.take t = R := List.take_of_length_le hRt
      have e2 : R.take m = R := List.take_of_length_le (by omega)
      rw [e1, ← e2] at A2
      exact hk w2 A2 K2.sk f02
    | cons x R' =>
      rw [hd] at K2
      rw [List.map_cons, decide_eq_true (by simp), BIf_true]
      rw [List.map_cons] at K2
      refine NextT_enter (methV _ w2) (F140_calls (F140_spec K2 (back_any ?_)))
      have hlen2 : (ansR (R.take t)).is.length = t := by show ((R.take t).map _).length = t; rw [List.length_map, List.length_take]; omega
      refine F46_call (F46_spec (o := some x) A2 (by omega) (by omega) fun w3 A3 f3 => back0 ?_)
      have hx : R[t]? = some x := by
        have := congrArg List.head? hd
        rw [List.head?_drop] at this; exact this
      have hlt : t < R.length := (List.getElem?_eq_some_iff.1 hx).1
      rw [← ansR_snoc, ← take_snoc hx] at A3
      have K3 := K2.fr_ty f3.choose_spec.1 f3.choose_spec.2.1 (by decide)
      refine ⟨⟨rfl, rfl, rfl, t + 1, false, _, htm, hlt, A3, K3, ?_, f02.trans f3.fr' fun b hb => .inl hb⟩, ?_⟩
      · have : R.drop (t + 1) = R' := by
          rw [← List.tail_drop, hd]; rfl
        rw [this]; rfl
      · obtain ⟨pi3, ci3, ph3, ch3, hB3, _⟩ := A3
        have hlen3 : (ansR (R.take (t + 1))).items.length = t + 1 := by show (R.take (t + 1)).length = t + 1; rw [List.length_take]; omega
        have e1 : w1.cell? ⟨n, 0, none⟩ = some (.slice pi t ci) := by rw [hB.cell, hlen]; rfl
        have e3 : w3.cell? ⟨n, 0, none⟩ = some (.slice pi3 (t + 1) ci3) := by rw [hB3.cell, hlen3]; rfl
        show (match w3.cell? ⟨n, 0, none⟩ with | some (.slice _ ln _) => m - ln | _ => 0) < (match w1.cell? ⟨n, 0, none⟩ with | some (.slice _ ln _) => m - ln | _ => 0)
        rw [e1, e3]
        show m - (t + 1) < m - t
        omega
  · rw [decide_eq_false (show ¬ ((t : Nat) : Int) < ((m : Nat) : Int) by omega), BIf_false]
    have : t = m := by omega
    subst this
    exact hk w1 A1 K1.sk f1

/-! ## A step -/
def ansO (os : List (Option Itm)) : Ans := Ans.kps ⟨[], [], 0⟩ os
def stepS (l : List Itm) (s : Stp) : List Itm := if s.op = 1 then runS putI l s.items else if s.op = 4 then runS delI l s.items else l
def stepA (l : List Itm) (s : Stp) : Ans :=
  if s.op = 1 then ansO (runO putI l s.items) else if s.op = 2 then ansO (runO getI l s.items) else if s.op = 4 then ansO (runO delI l s.items)
  else if s.op = 5 then ansR ((hiI (s.items.headD (0, 0)).1 l).take s.most.toNat) else ⟨[], [], l.length⟩
theorem tailA {k : Value → W} {w : World} {base n8 n9 : Nat} {a : Ans} (A : AnB w base n9 a) (b8 : Blk w n8 35 [.slice none 0 0, .slice none 0 0, .int .u64 0]) (hne : n8 ≠ n9)
    (hk : ∀ w' pi ci ph ch, Sl ItK w' pi a.items → Sl BoK w' ph a.is → Fr (fun b => b = n8) w w' → k (.tuple #[.agg #[.slice pi a.items.length ci, .slice ph a.is.length ch, .int .u64 (a.n : Nat)], .pointer none]) w') :
    (LoadT .slice ⟨n9, 0, none⟩ fun s14p s14l s14c =>
      LoadT .slice ⟨n9, 1, none⟩ fun s15p s15l s15c =>
      LoadT (.int .u64) ⟨n9, 2, none⟩ fun x16 =>
      Store1 ⟨n8, 0, none⟩ (.slice s14p s14l s14c) <|
      Store1 ⟨n8, 1, none⟩ (.slice s15p s15l s15c) <|
      Store1 ⟨n8, 2, none⟩ (.int .u64 x16) <|
      LoadT .slice ⟨n8, 0, none⟩ fun s17p s17l s17c =>
      LoadT .slice ⟨n8, 1, none⟩ fun s18p s18l s18c =>
      LoadT (.int .u64) ⟨n8, 2, none⟩ fun x19 =>
      k (.tuple #[.agg #[.slice s17p s17l s17c, .slice s18p s18l s18c, .int .u64 x19], .pointer none])) w := by
  obtain ⟨pi, ci, ph, ch, hB, hI, hH, _⟩ := A
  refine load_slice (i := 0) hB rfl (load_slice (i := 1) hB rfl (load_int (i := 2) hB rfl ?_))
  refine store_intro (i := 0) b8 (by simp) rfl fun w1 b1 f1 z1 => ?_
  refine store_intro (i := 1) b1 (by simp) rfl fun w2 b2 f2 z2 => ?_
  refine store_intro (i := 2) b2 (by simp) rfl fun w3 b3 f3 z3 => ?_
  refine load_slice (i := 0) b3 rfl (load_slice (i := 1) b3 rfl (load_int (i := 2) b3 rfl ?_))
  have f : Fr (fun b => b = n8) w w3 := (f1.trans f2 fun _ h => .inl h).trans f3 fun _ h => .inl h
  exact hk w3 pi ci ph ch (hI.sl.fr f (Tys.one b8) (by decide)) (hH.sl.fr f (Tys.one b8) (by decide)) f
theorem F23_spec {k : Value → W} {w : World} {sl : Nat} {F : Nat → Prop} {l : List Itm} {st : Stp} {ip : Option Addr} {ic : Nat} (K : SK keyE w sl F (l.map enc)) (hI : Sl ItK w ip st.items)
    (hop : st.op = 1 ∨ st.op = 2 ∨ st.op = 4 ∨ st.op = 5 ∨ st.op = 6) (hm : 0 ≤ st.most ∧ st.most < 4000000000) (hl : l.length + st.items.length < 4000000000)
    (hk : ∀ w' F' pi ci ph ch, SK keyE w' sl F' ((stepS l st).map enc) → Fr F w w' → (∀ b, F' b → F b ∨ w.heap.size ≤ b) → Sl ItK w' pi (stepA l st).items → Sl BoK w' ph (stepA l st).is →
      k (.tuple #[.agg #[.slice pi (stepA l st).items.length ci, .slice ph (stepA l st).is.length ch, .int .u64 ((stepA l st).n : Nat)], .pointer none]) w') :
    F23 k (some ⟨sl, 0, none⟩) st.op 0 ip st.items.length ic 0 st.most w := by
  unfold F23
  refine new_intro fun n7 w1 e1 b1 f1 z1 => new_intro fun n8 w2 e2 b2 f2 z2 => new_intro fun n9 w3 e3 b3 f3 z3 => ?_
  have f03 : Fr (fun _ => False) w w3 := (f1.trans f2 fun _ h => h.elim).trans f3 fun _ h => h.elim
  have b7 := (b1.fr f2 id).fr f3 id
  have b8 := b2.fr f3 id
  have K3 := K.fr0 f03
  have hI3 := hI.fr0 f03
  have A3 : AnB w3 n9 n9 ⟨[], [], 0⟩ := ⟨none, 0, none, 0, b3, SlO.nil _ _, SlO.nil _ _, Nat.le_refl _, (fun b ⟨_, h, _⟩ => by cases h), (fun b ⟨_, h, _⟩ => by cases h)⟩
  have hz3 := f03.size
  have hFn : ∀ {w' : World} {F' : Nat → Prop} {vs : List Value} {b u : Nat} {us : List Value}, SK keyE w' sl F' vs → Blk w' b u us → u ∉ [106, 165, 100, 33] → ¬ F' b := fun K hb hu hF => hu (K.ty _ _ _ hF hb)
  refine load_int (i := 0) b7 rfl ?_
  -- what several are told
  have many : ∀ (s : List Itm → Itm → List Itm), stepS l st = runS s l st.items → stepA l st = ansO (runO s l st.items) → ∀ (w5 : World) (F5 : Nat → Prop) (p5 : Option Addr) (c5 : Nat), SK keyE w5 sl F5 ((runS s l st.items).map enc) → Fr F w3 w5 → (∀ b, F5 b → F b ∨ w3.heap.size ≤ b) → Own w5 114 p5 st.items.length c5 ((runO s l st.items).map encO) →
      (CallT Try.prog 40 [.pointer (some ⟨n9, 0, none⟩), .slice p5 st.items.length c5] (.tup []) <|
      LoadT .slice ⟨n9, 0, none⟩ fun s14p s14l s14c =>
      LoadT .slice ⟨n9, 1, none⟩ fun s15p s15l s15c =>
      LoadT (.int .u64) ⟨n9, 2, none⟩ fun x16 =>
      Store1 ⟨n8, 0, none⟩ (.slice s14p s14l s14c) <|
      Store1 ⟨n8, 1, none⟩ (.slice s15p s15l s15c) <|
      Store1 ⟨n8, 2, none⟩ (.int .u64 x16) <|
      LoadT .slice ⟨n8, 0, none⟩ fun s17p s17l s17c =>
      LoadT .slice ⟨n8, 1, none⟩ fun s18p s18l s18c =>
      LoadT (.int .u64) ⟨n8, 2, none⟩ fun x19 =>
      k (.tuple #[.agg #[.slice s17p s17l s17c, .slice s18p s18l s18c, .int .u64 x19], .pointer none])) w5 := fun s hS hA w5 F5 p5 c5 K5 f5 hF5 O5 => by
    have A5 := A3.fr_ty f5 K3.ty (by decide)
    have b85 := b8.fr f5 (hFn K3 b8 (by decide))
    rw [← runO_length s l st.items] at O5 ⊢
    refine F40_call (F40_spec A5 O5 (by rw [runO_length]; show 0 + _ < _; omega) (by rw [runO_length]; show 0 + _ < _; omega) fun w6 A6 f6 => back0 ?_)
    have b86 := b85.fr f6.fr' (show ¬ n9 ≤ n8 by omega)
    have K6 := K5.fr_ty f6.choose_spec.1 f6.choose_spec.2.1 (by decide)
    have e6 : Ans.kps ⟨[], [], 0⟩ (runO s l st.items) = stepA l st := hA.symm
    rw [e6] at A6
    refine tailA A6 b86 (by omega) fun w7 pi ci ph ch hI7 hH7 f7 => ?_
    refine hk w7 F5 pi ci ph ch ?_ ?_ (fun b hb => ?_) hI7 hH7
    · rw [hS]; exact K6.fr_ty f7 (Tys.one b86) (by decide)
    · refine (((f03.mono (S' := F) fun _ h => h.elim).trans f5 fun b hb => .inl hb).trans f6.fr' fun b hb => .inr ?_).trans f7 fun b hb => .inr ?_
      · have hb : n9 ≤ b := hb; omega
      · have hb : b = n8 := hb; omega
    · rcases hF5 b hb with h | h
      · exact .inl h
      · exact .inr (by omega)
  have items : ∀ (f : Option Addr → Nat → Nat → W), (∀ w4 p4 c4, Own w4 114 p4 st.items.length c4 (st.items.map enc) → Fr (fun _ => False) w3 w4 → f p4 st.items.length c4 w4) → (LoadT .slice ⟨n7, 2, none⟩ fun s11p s11l s11c => CallT Try.prog 42 [.slice s11p s11l s11c] (.s (.one .slice)) f) w3 := fun f hf => by
    refine load_slice (i := 2) b7 rfl ?_
    exact F42_call (F42_spec hI3 (by omega) fun w4 p4 c4 O4 hp4 f4 => back_slice (hf w4 p4 c4 O4 f4))
  by_cases h1 : st.op = 1
  · rw [show (st.op == 1) = true by rw [h1]; rfl, BIf_true]
    refine items _ fun w4 p4 c4 O4 f4 => ?_
    refine F41_call (F41_spec (K3.fr0 f4) (by omega) O4 fun w5 F5 p5 c5 K5 f5 hF5 O5 hp5 => back_slice ?_)
    have := f4.size
    exact many putI (by unfold stepS; rw [if_pos h1]) (by unfold stepA; rw [if_pos h1]) w5 F5 p5 c5 K5 ((f4.mono fun _ h => h.elim).trans f5 fun _ h => .inl h) (fun b hb => (hF5 b hb).imp id fun h => by omega) O5
  rw [show (st.op == 1) = false from beq_eq_false_iff_ne.2 h1, BIf_false]
  by_cases h2 : st.op = 2
  · rw [show (st.op == 2) = true by rw [h2]; rfl, BIf_true]
    refine items _ fun w4 p4 c4 O4 f4 => ?_
    refine F43_call (F43_spec (K3.fr0 f4) (by omega) O4 fun w5 F5 p5 c5 K5 f5 hF5 O5 hp5 => back_slice ?_)
    have := f4.size
    refine many getI ?_ (by unfold stepA; rw [if_neg h1, if_pos h2]) w5 F5 p5 c5 K5 ((f4.mono fun _ h => h.elim).trans f5 fun _ h => .inl h) (fun b hb => (hF5 b hb).imp id fun h => by omega) O5
    unfold stepS
    rw [if_neg h1, if_neg (by omega)]
    have : ∀ (xs : List Itm), runS getI l xs = l := fun xs => by
      induction xs with
      | nil => rfl
      | cons x xs ih => exact ih
    exact (this _).symm
  rw [show (st.op == 2) = false from beq_eq_false_iff_ne.2 h2, BIf_false]
  rw [show (st.op == 3) = false from beq_eq_false_iff_ne.2 (by omega), BIf_false]
  by_cases h4 : st.op = 4
  · rw [show (st.op == 4) = true by rw [h4]; rfl, BIf_true]
    refine items _ fun w4 p4 c4 O4 f4 => ?_
    refine F47_call (F47_spec (K3.fr0 f4) (by omega) O4 fun w5 F5 p5 c5 K5 f5 hF5 O5 hp5 => back_slice ?_)
    have := f4.size
    exact many delI (by unfold stepS; rw [if_neg h1, if_pos h4]) (by unfold stepA; rw [if_neg h1, if_neg h2, if_pos h4]) w5 F5 p5 c5 K5 ((f4.mono fun _ h => h.elim).trans f5 fun _ h => .inl h) (fun b hb => (hF5 b hb).imp id fun h => by omega) O5
  rw [show (st.op == 4) = false from beq_eq_false_iff_ne.2 h4, BIf_false]
  have hS0 : stepS l st = l := by unfold stepS; rw [if_neg h1, if_neg h4]
  by_cases h5 : st.op = 5
  · rw [show (st.op == 5) = true by rw [h5]; rfl, BIf_true]
    have hA0 : stepA l st = ansR ((hiI (st.items.headD (0, 0)).1 l).take st.most.toNat) := by unfold stepA; rw [if_neg h1, if_neg h2, if_neg h4, if_pos h5]
    refine drw_intro fun w4 f4 z4 => ?_
    have b74 := b7.fr f4 id
    refine load_slice (i := 2) b74 rfl (load_int (i := 4) b74 rfl ?_)
    refine F45_call (F45_spec (hI3.fr0 f4) fun w5 f5 => ⟨(_, _, ()), rfl, ?_⟩)
    have b75 := b74.fr f5 id
    have f35 := f4.trans f5 fun _ h => h.elim
    have K5 := K3.fr0 f35
    refine chk (i := 4) b75 rfl ?_
    refine F49_call (F49_spec (q := enc (st.items.headD (0, 0))) (kq := (st.items.headD (0, 0)).1) K5 (by rw [List.length_map]; omega) (cmp_ok _ _ _ _) fun w6 it b rest K6 hr6 hit f6 => back_any ?_)
    have b76 := b75.fr f6 (hFn K5 b75 (by decide))
    refine chk (i := 4) b76 rfl (chk (i := 2) b76 rfl ?_)
    have A6 := (A3.fr0 f35).fr_ty f6 K5.ty (by decide)
    have hz5 := f35.size
    have b86 := (b8.fr f35 id).fr f6 (hFn K5 (b8.fr f35 id) (by decide))
    rw [hi_enc] at hr6
    have hmost : st.most = ((st.most.toNat : Nat) : Int) := by omega
    rw [hmost]
    refine F48_call (F48_spec (R := hiI (st.items.headD (0, 0)).1 l) A6 K6 hr6 (by omega) (by omega) fun w7 A7 K7 f7 => back0 ?_)
    have b77 := b76.fr f7 (show ¬ n9 ≤ n7 by omega)
    have b87 := b86.fr f7 (show ¬ n9 ≤ n8 by omega)
    refine chk (i := 2) b77 rfl ?_
    rw [← hA0] at A7
    refine tailA A7 b87 (by omega) fun w8 pi ci ph ch hI8 hH8 f8 => ?_
    refine hk w8 F pi ci ph ch ?_ ?_ (fun b hb => .inl hb) hI8 hH8
    · rw [hS0]; exact K7.fr_ty f8 (Tys.one b87) (by decide)
    · refine ((((f03.trans f35 fun _ h => h.elim).mono (S' := F) fun _ h => h.elim).trans f6 fun b hb => .inl hb).trans f7 fun b hb => .inr ?_).trans f8 fun b hb => .inr ?_
      · have hb : n9 ≤ b := hb; omega
      · have hb : b = n8 := hb; omega
  rw [show (st.op == 5) = false from beq_eq_false_iff_ne.2 h5, BIf_false]
  have h6 : st.op = 6 := by omega
  rw [show (st.op == 6) = true by rw [h6]; rfl, BIf_true]
  have hA0 : stepA l st = ⟨[], [], l.length⟩ := by unfold stepA; rw [if_neg h1, if_neg h2, if_neg h4, if_neg h5]
  refine F50_call (F50_sk K3 (back_int ?_))
  refine store_intro (i := 2) b3 (by simp) rfl fun w4 b4 f4 z4 => ?_
  have A4 : AnB w4 n9 n9 (stepA l st) := by
    rw [hA0]
    refine ⟨none, 0, none, 0, ?_, SlO.nil _ _, SlO.nil _ _, Nat.le_refl _, (fun b ⟨_, h, _⟩ => by cases h), (fun b ⟨_, h, _⟩ => by cases h)⟩
    have := b4
    rw [List.length_map] at this
    exact this
  have b84 := b8.fr f4 (show ¬ n8 = n9 by omega)
  refine tailA A4 b84 (by omega) fun w8 pi ci ph ch hI8 hH8 f8 => ?_
  refine hk w8 F pi ci ph ch ?_ ?_ (fun b hb => .inl hb) hI8 hH8
  · rw [hS0]; exact (K3.fr_ty f4 (Tys.one b3) (by decide)).fr_ty f8 (Tys.one b84) (by decide)
  · refine ((f03.mono (S' := F) fun _ h => h.elim).trans f4 fun b hb => .inr ?_).trans f8 fun b hb => .inr ?_
    · have hb : b = n9 := hb; omega
    · have hb : b = n8 := hb; omega
end Go.Proofs.Ytfokodpnoiilbaa.E
