/-
  The keys that a script takes out.
-/
import Derived.Test.YtbbidbjefdaagaaDoorPq6
namespace Go.Proofs.YtbbidbjefdaagaaDoor.E
open Go Go.Sort
set_option linter.unusedSimpArgs false
set_option linter.unusedVariables false
set_option maxRecDepth 100000
set_option maxHeartbeats 4000000

def GotI (w w1 : World) (vs : List It2) (op : Option Addr) (ol oc : Nat) (w' : World) : Prop :=
  Own w' 3 op ol oc (ints (vs.map key)) ∧ (∀ b, bl op b → w1.heap.size ≤ b) ∧ Fr (fun _ => False) w1 w'
theorem F12_spec {k : Value → W} {w : World} {dup : Bool} {p : Option Addr} {l c : Nat} {es : List Ent} (hS : StepsAt w p l c es) (hlen : es.length ≤ 200) (hF : Fine dup (es.map Ent.st))
    (hk : ∀ os C p' l' c' w', Run dup (es.map Ent.st) os C → Own w' 3 p' l' c' (ints (os.flatten.map key)) → (∀ b, bl p' b → w.heap.size ≤ b) → Fr (fun _ => False) w w' → k (.tuple #[.slice p' l' c', .bool true]) w') : F12 k 0 dup p l c w := by
  have hl := hS.len
  subst hl
  unfold F12
  refine F16_call (F16_spec hS hlen hF fun rs os C rp rcap w1 hR O1 o1 f1 => back_slice ?_)
  rw [show (((es.length : Nat) : Int) != ((es.length : Nat) : Int)) = false by simp]
  simp only [BIf_false]
  have hrl : rs.length = es.length := by have := o1.1; rw [rflat_length] at this; omega
  have hol : os.length = es.length := by have := hR.len; simpa using this
  have hsize : ∀ ys ∈ os, ys.length ≤ 100 * 200 := by
    intro ys hy
    have aux : ∀ {ss os C}, Run dup ss os C → (∀ s ∈ ss, s.2.2.length ≤ 100) → ∀ ys ∈ os, ys.length ≤ 100 * ss.length := by
      intro ss os C h
      induction h with
      | nil => intro _ ys hy; cases hy
      | @put ss os C C' n xs h1 h2 ih =>
        intro hs ys hy
        rcases List.mem_append.1 hy with hy | hy
        · have := ih (fun s hs' => hs s (List.mem_append_left _ hs')) ys hy
          simp only [List.length_append, List.length_singleton]; omega
        · simp only [List.mem_singleton] at hy; subst hy; simp
      | @get ss os C D n xs ys' h1 h2 h3 ih =>
        intro hs ys hy
        have hs' := fun s hs' => hs s (List.mem_append_left _ hs')
        rcases List.mem_append.1 hy with hy | hy
        · have := ih hs' ys hy
          simp only [List.length_append, List.length_singleton]; omega
        · simp only [List.mem_singleton] at hy; subst hy
          have := h1.size hs'
          simp only [List.length_append, List.length_singleton]; omega
    have := aux hR (fun s hs => (hF.1 s hs).1) ys hy
    rw [List.length_map] at this; omega
  have hflat : ∀ i, ((os.take i).flatten).length ≤ i * 20000 := by
    intro i
    have aux : ∀ (os : List (List It2)), (∀ ys ∈ os, ys.length ≤ 20000) → os.flatten.length ≤ os.length * 20000 := by
      intro os
      induction os with
      | nil => intro _; simp
      | cons y os ih =>
        intro h
        have h1 := h y (List.mem_cons_self ..)
        have h2 := ih fun z hz => h z (List.mem_cons_of_mem _ hz)
        simp only [List.flatten_cons, List.length_append, List.length_cons]; omega
    have h1 := aux (os.take i) fun ys hy => by have := hsize ys (List.mem_of_mem_take hy); omega
    have h2 : (os.take i).length ≤ i := by simp; omega
    omega
  refine F12_L1_rule (fun sp sl sc op ol oc tp tl tc x8 x9 w' => sp = p ∧ sl = es.length ∧ tp = rp ∧ tl = es.length ∧ x8 = (es.length : Nat) ∧ ∃ i : Nat, x9 = i ∧ i ≤ es.length ∧ GotI w w1 (os.take i).flatten op ol oc w')
    (fun _ _ _ _ _ _ _ _ _ x8 x9 _ => (x8 - x9).toNat) ?_ ⟨rfl, rfl, rfl, rfl, rfl, 0, rfl, Nat.zero_le _, Own.nil _ _, fun b ⟨a, h, _⟩ => (by cases h), Fr.refl _ _⟩
  rintro sp sl sc op ol oc tp tl tc x8 x9 w2 ⟨e1, e2, e3, e4, rfl, i, rfl, hi, o2, hp2, f2⟩
  obtain rfl := e1.symm; obtain rfl := e2.symm; obtain rfl := e3.symm; obtain rfl := e4.symm
  unfold F12_L1
  by_cases hil : i < es.length
  rotate_left
  · have : i = es.length := by omega
    subst this
    rw [decide_eq_false (by omega)]
    rw [← hol, List.take_length] at o2
    simp only [BIf_false]
    exact hk os C op ol oc w2 hR o2 (fun b hb => Nat.le_trans f1.size (hp2 b hb)) (f1.trans f2 fun _ h => h.elim)
  rw [decide_eq_true (by omega)]
  obtain ⟨r, hr⟩ : ∃ r, rs[i]? = some r := ⟨rs[i]'(by omega), List.getElem?_eq_getElem _⟩
  obtain ⟨ys, hy⟩ : ∃ ys, os[i]? = some ys := ⟨os[i]'(by omega), List.getElem?_eq_getElem _⟩
  obtain ⟨e, hget⟩ : ∃ e, es[i]? = some e := ⟨es[i]'(by omega), List.getElem?_eq_getElem _⟩
  have hys := hsize ys (List.mem_of_getElem? hy)
  obtain ⟨rq, rrest, rfl, _⟩ := o1.get (by omega)
  obtain ⟨sq, srest, rfl, _⟩ := hS.own.get (by omega)
  have hrec := o1.fr f2 fun _ _ h => h
  obtain ⟨d1, d2, d3, d4⟩ := rflat_get rs i r hr
  simp only [BIf_true, NN_mk, Int.toNat_natCast, add_mk, Nat.zero_add, Nat.add_zero]
  refine ⟨by omega, LoadT_slice.2 ⟨_, _, _, by rw [hrec.cell (by omega)]; exact d1, LoadT_int.2 ⟨_, by rw [hrec.cell (by omega)]; exact d2, LoadT_bool.2 ⟨_, by rw [hrec.cell (by omega)]; exact d3, LoadT_int.2 ⟨_, by rw [hrec.cell (by omega)]; exact d4, ?_⟩⟩⟩⟩⟩
  refine new_intro fun n w3 e3 b3 f3 z3 => ?_
  refine store_intro (i := 0) b3 (by simp) rfl fun w4 b4 f4 z4 => ?_
  refine store_intro (i := 1) b4 (by simp) rfl fun w5 b5 f5 z5 => ?_
  refine store_intro (i := 2) b5 (by simp) rfl fun w6 b6 f6 z6 => ?_
  refine store_intro (i := 3) b6 (by simp) rfl fun w7 b7 f7 z7 => ?_
  refine load_int (i := 3) b7 rfl ?_
  simp only [show ((0 : Int) != 0) = false from rfl, BIf_false]
  refine load_slice (i := 0) b7 rfl ?_
  have f27 : Fr (fun _ => False) w2 w7 := (((f3.trans f4 fun b e => .inr (by have : b = n := e; omega)).trans f5 fun b e => .inr (by have : b = n := e; omega)).trans f6 fun b e => .inr (by have : b = n := e; omega)).trans f7 fun b e => .inr (by have : b = n := e; omega)
  have f17 := f2.trans f27 fun _ h => h.elim
  have hyl : r.2.1 = ys.length := by have := (O1.2 i r ys hr hy).1; rw [flat_length] at this; omega
  have hE := (O1.2 i r ys hr hy).pairs
  rw [hyl]
  refine F12_L2_rule (fun sp' sl' sc' op' ol' oc' i21 tp' tl' tc' x23 x24 ip il ic x26 x27 w' => sp' = some ⟨sq, 0, none⟩ ∧ sl' = es.length ∧ sc' = sc ∧ i21 = (i : Nat) ∧ tp' = some ⟨rq, 0, none⟩ ∧ tl' = es.length ∧ tc' = tc ∧ x23 = (es.length : Nat) ∧ x24 = (i : Nat) ∧ ip = r.1 ∧ il = ys.length ∧ x26 = (ys.length : Nat) ∧ ∃ j : Nat, x27 = j ∧ j ≤ ys.length ∧ GotI w w1 ((os.take i).flatten ++ ys.take j) op' ol' oc' w')
    (fun _ _ _ _ _ _ _ _ _ _ _ _ _ _ _ x26 x27 _ => (x26 - x27).toNat) ?_ ⟨rfl, rfl, rfl, rfl, rfl, rfl, rfl, rfl, rfl, rfl, rfl, rfl, 0, rfl, Nat.zero_le _, by rw [List.take_zero, List.append_nil]; exact o2.fr f27 fun _ _ h => h, hp2, f17⟩
  rintro sp' sl' sc' op' ol' oc' i21 tp' tl' tc' x23 x24 ip il ic x26 x27 w8 ⟨rfl, rfl, rfl, rfl, rfl, rfl, rfl, rfl, rfl, rfl, rfl, rfl, j, rfl, hj, o8, hp8, f8⟩
  unfold F12_L2
  by_cases hjl : j < ys.length
  rotate_left
  · have : j = ys.length := by omega
    subst this
    rw [decide_eq_false (by omega)]
    rw [List.take_length] at o8
    simp only [BIf_false]
    rw [add_one (by omega)]
    refine ⟨⟨(by trivial), (by trivial), (by trivial), (by trivial), (by trivial), i + 1, rfl, by omega, ?_, hp8, f8⟩, by omega⟩
    rw [take_snoc hy, List.flatten_append]
    simpa using o8
  rw [decide_eq_true (by omega)]
  have hgy : ys[j]? = some (ys[j]'(by omega)) := List.getElem?_eq_getElem _
  generalize ys[j]'(by omega) = x at hgy
  obtain ⟨a, ha, c1, c2⟩ := hE.fr0 f8 j x hgy
  have hst : e.op = 2 := hR.quiet i (e.op, e.n, e.xs) ys (es_get hget) hy (fun h => by rw [h] at hjl; simp at hjl)
  rw [ha]
  simp only [BIf_true, NN_mk, Int.toNat_natCast]
  refine ⟨by omega, LoadT_int.2 ⟨_, c1, LoadT_int.2 ⟨_, c2, ?_⟩⟩⟩
  refine new_intro fun n9 w9 e9 b9 f9 z9 => ?_
  refine store_intro (i := 0) b9 (by simp) rfl fun wa ba fa za => ?_
  refine store_intro (i := 1) ba (by simp) rfl fun wb bb fb zb => ?_
  have f8b : Fr (fun _ => False) w8 wb := (f9.trans fa fun b e => .inr (by have : b = n9 := e; omega)).trans fb fun b e => .inr (by have : b = n9 := e; omega)
  have f1b := f8.trans f8b fun _ h => h.elim
  have hst2 := (hS.own.fr f1 fun _ _ h => h).fr f1b fun _ _ h => h
  simp only [NN_mk, add_mk, Nat.zero_add, Int.toNat_natCast]
  refine ⟨by omega, LoadT_int.2 ⟨_, by rw [hst2.cell (by omega)]; exact (sflat_get es i e hget).1, ?_⟩⟩
  rw [hst]
  simp only [show ((2 : Int) == 2) = true from rfl, BIf_true]
  refine load_int (i := 0) bb rfl ?_
  obtain ⟨i3, g1, g2, g3, g4⟩ := inf3
  rw [add_one (by omega)]
  have hfl := hflat i
  have hol' : ol' ≤ 5000000 := by
    have h1 := o8.1
    simp only [ints_length, List.length_map, List.length_append, List.length_take] at h1
    omega
  refine append1 (P := Tryd.prog) und29 g1 g2 g3 rfl g4 (o8.fr f8b fun _ _ h => h) rfl rfl (by omega) fun p7 c7 wc fc oc7 hp7 hs7 => ?_
  refine ⟨⟨(by trivial), (by trivial), (by trivial), (by trivial), (by trivial), (by trivial), (by trivial), (by trivial), (by trivial), (by trivial), (by trivial), (by trivial), j + 1, rfl, by omega, ?_, ?_, f1b.trans fc fun b hb => .inr (hp8 b hb)⟩, by omega⟩
  · rw [take_snoc hgy, ← List.append_assoc, List.map_append, ints_append]; exact oc7
  · intro b hb
    rcases hp7 b hb with h | h
    · exact hp8 b h
    · have := f1b.size; omega
end Go.Proofs.YtbbidbjefdaagaaDoor.E
