/-
  What comes out of a heap, plain.
-/
import Derived.Test.YtlbeelgfpbkdbaaFhA
namespace Go.Proofs.Ytlbeelgfpbkdbaa.E
open Go
set_option linter.unusedSimpArgs false
set_option linter.unusedVariables false
set_option maxRecDepth 100000
set_option maxHeartbeats 4000000

abbrev PS := List (Option Int) → Option Nat → List FD → Prop
theorem After.imp {P P' : PS} (h : ∀ Q mi out, P Q mi out → P' Q mi out) : ∀ {ss : List FS} {Q : List (Option Int)} {mi : Option Nat} {out : List FD}, After P ss Q mi out → After P' ss Q mi out
  | [], _, _, _, hA => h _ _ _ hA
  | s :: ss, _, _, _, hA => ⟨hA.1, fun Q' mi' sd hst => After.imp h (hA.2 Q' mi' sd hst)⟩
theorem After.append {P : PS} : ∀ {ss tt : List FS} {Q : List (Option Int)} {mi : Option Nat} {out : List FD}, After (fun Q mi out => After P tt Q mi out) ss Q mi out → After P (ss ++ tt) Q mi out
  | [], _, _, _, _, hA => hA
  | s :: ss, _, _, _, _, hA => ⟨hA.1, fun Q' mi' sd hst => After.append (hA.2 Q' mi' sd hst)⟩
theorem FStep.more {s : FS} {Q Q' : List (Option Int)} {mi mi' : Option Nat} {sd : FD} (h : FStep s Q mi Q' mi' sd) (hm : MinAt Q mi) : MinAt Q' mi' ∧ Q'.length ≤ Q.length + 1 := by
  cases h with
  | enq a b => exact ⟨b, by simp⟩
  | look => exact ⟨hm, by omega⟩
  | deq a b c d => exact ⟨d, by simp⟩
  | dec a b => exact ⟨b, by simp⟩
theorem After.more {P : PS} : ∀ {ss : List FS} {Q : List (Option Int)} {mi : Option Nat} {out : List FD}, MinAt Q mi → After P ss Q mi out → After (fun Q' mi' out' => MinAt Q' mi' ∧ Q'.length ≤ Q.length + ss.length ∧ out'.length = out.length + ss.length ∧ P Q' mi' out') ss Q mi out
  | [], _, _, _, hm, hA => ⟨hm, by simp, by simp, hA⟩
  | s :: ss, Q, mi, out, hm, hA => ⟨hA.1, fun Q' mi' sd hst => by
    obtain ⟨h1, h2⟩ := hst.more hm
    refine After.imp ?_ (After.more h1 (hA.2 Q' mi' sd hst))
    rintro Q2 m2 o2 ⟨a, b, c, d⟩
    exact ⟨a, by simp only [List.length_cons]; omega, by simp only [List.length_cons, List.length_append, List.length_nil] at c ⊢; omega, d⟩⟩
/-- What is in the heap. -/
def inn (Q : List (Option Int)) : List Int := Q.filterMap id
theorem cnt_inn (Q : List (Option Int)) : cnt Q = (inn Q).length := rfl
theorem inn_set : ∀ {Q : List (Option Int)} {i : Nat} {v : Int}, Q[i]? = some (some v) → (inn Q).Perm (v :: inn (Q.set i none))
  | [], _, _, h => by cases h
  | o :: Q, 0, v, h => by simp at h; subst h; simp [inn]
  | none :: Q, i + 1, v, h => by
    have := inn_set (Q := Q) (i := i) (v := v) (by simpa using h)
    simpa [inn] using this
  | some u :: Q, i + 1, v, h => by
    have := inn_set (Q := Q) (i := i) (v := v) (by simpa using h)
    have h2 : (u :: inn Q).Perm (u :: v :: inn (Q.set i none)) := this.cons u
    have h3 : (u :: v :: inn (Q.set i none)).Perm (v :: u :: inn (Q.set i none)) := List.Perm.swap ..
    simpa [inn] using h2.trans h3
theorem mem_inn {Q : List (Option Int)} {u : Int} : u ∈ inn Q ↔ ∃ j : Nat, Q[j]? = some (some u) := by
  unfold inn
  rw [List.mem_filterMap]
  constructor
  · rintro ⟨o, ho, hou⟩
    simp only [id_eq] at hou
    subst hou
    exact List.mem_iff_getElem?.1 ho
  · rintro ⟨j, hj⟩
    exact ⟨some u, List.mem_of_getElem? hj, rfl⟩
/-- What comes out: the same, in order. -/
def Ext (V o : List Int) : Prop := o.Perm V ∧ o.Pairwise (· ≤ ·)
theorem Ext.cons {V V' o : List Int} {v : Int} (h : V.Perm (v :: V')) (hm : ∀ u ∈ V, v ≤ u) (he : Ext V' o) : Ext V (v :: o) :=
  ⟨(he.1.cons v).trans h.symm, List.pairwise_cons.2 ⟨fun u hu => hm u (h.mem_iff.2 (List.mem_cons_of_mem _ (he.1.mem_iff.1 hu))), he.2⟩⟩
theorem Ext.perm {V V' o : List Int} (h : Ext V o) (hp : V.Perm V') : Ext V' o := ⟨h.1.trans hp, h.2⟩
theorem Ext.det {V o o' : List Int} (h : Ext V o) (h' : Ext V o') : o = o' :=
  List.Perm.eq_of_pairwise (fun a b _ _ h1 h2 => Int.le_antisymm h1 h2) h.2 h'.2 (h.1.trans h'.1.symm)
theorem Ext.shift {V o : List Int} (d : Int) (h : Ext V o) : Ext (V.map (· + d)) (o.map (· + d)) :=
  ⟨h.1.map _, List.pairwise_map.2 (h.2.imp fun h => by omega)⟩
theorem Ext.len {V o : List Int} (h : Ext V o) : o.length = V.length := h.1.length_eq
def dq : FS := ⟨3, 0, 0⟩
theorem fit0 : Fit 0 := by unfold Fit; omega
/-- Dequeued until empty. -/
theorem after_dq (P : PS) : ∀ (n : Nat) {Q : List (Option Int)} {mi : Option Nat} {out : List FD}, MinAt Q mi → Q.length ≤ 800 → n = cnt Q → (∀ Q' mi' (o : List FD), cnt Q' = 0 → Ext (inn Q) (o.map (·.p)) → o.length = n → (0 < n → ∃ d, o[n - 1]? = some d ∧ d.z = 0) → P Q' mi' (out ++ o)) → After P (List.replicate n dq) Q mi out
  | 0, Q, mi, out, hm, hl, hn, hk => by
    have hv : inn Q = [] := List.length_eq_zero_iff.1 (by rw [← cnt_inn, ← hn])
    have := hk Q mi [] hn.symm (by rw [hv]; exact ⟨List.Perm.refl _, List.Pairwise.nil⟩) rfl (fun h => by omega)
    simpa [After] using this
  | n + 1, Q, mi, out, hm, hl, hn, hk => by
    refine ⟨⟨fit0, hl, .inr (.inl ⟨.inr rfl, by omega⟩)⟩, fun Q' mi' sd hst => ?_⟩
    cases hst with
    | enq a b => cases a
    | look a b c => cases a
    | dec a b => cases a
    | @deq i v mi' a b c d =>
      have hp := inn_set c
      have hc : cnt (Q.set i none) = n := by
        have := hp.length_eq
        rw [← cnt_inn, ← hn, List.length_cons, ← cnt_inn] at this; omega
      refine after_dq P n d (by simpa using hl) hc.symm fun Q2 m2 o h1 h2 h3 h4 => ?_
      have hmn : ∀ u ∈ inn Q, v ≤ u := fun u hu => by
        obtain ⟨j, hj⟩ := mem_inn.1 hu
        rcases hm with ⟨h, _⟩ | ⟨i', v', e1, e2, e3⟩
        · exact absurd hj (h j u)
        · rw [b] at e1; cases e1
          rw [c] at e2; cases e2
          exact e3 j u hj
      have := hk Q2 m2 (⟨i, v, cnt (Q.set i none)⟩ :: o) h1 (Ext.cons hp hmn h2) (by simp [h3]) fun _ => by
        cases n with
        | zero => exact ⟨_, rfl, hc⟩
        | succ n =>
          obtain ⟨d, hd1, hd2⟩ := h4 (by omega)
          exact ⟨d, by simpa using hd1, hd2⟩
      simpa using this
/-- Enqueued, one after the other. -/
theorem after_enq (P : PS) : ∀ (xs : List Int) {Q : List (Option Int)} {mi : Option Nat} {out : List FD}, MinAt Q mi → (∀ x ∈ xs, Fit x) → Q.length + xs.length ≤ 800 → (∀ mi' (o : List FD), MinAt (Q ++ xs.map some) mi' → o.length = xs.length → P (Q ++ xs.map some) mi' (out ++ o)) → After P (xs.map fun x => ⟨1, 0, x⟩) Q mi out
  | [], Q, mi, out, hm, hf, hl, hk => by
    have := hk mi [] (by simpa using hm) rfl
    simpa [After] using this
  | x :: xs, Q, mi, out, hm, hf, hl, hk => by
    simp only [List.length_cons] at hl
    refine ⟨⟨hf x (by simp), by omega, .inl rfl⟩, fun Q' mi' sd hst => ?_⟩
    cases hst with
    | look a b c => cases a
    | dec a b => cases a
    | deq a b c d => cases a
    | @enq mi' a b =>
      refine after_enq P xs b (fun y hy => hf y (by simp [hy])) (by simp; omega) fun m2 o h1 h2 => ?_
      have e : Q ++ (x :: xs).map some = Q ++ [some x] ++ xs.map some := by simp
      have := hk m2 (⟨Q.length, x, cnt (Q ++ [some x])⟩ :: o) (by rw [e]; exact h1) (by simp [h2])
      rw [e] at this
      simpa using this
theorem min0 : MinAt [] none := .inl ⟨(fun j u h => by cases h), rfl⟩
theorem inn_somes (xs : List Int) : inn (xs.map some) = xs := by unfold inn; induction xs <;> simp_all
theorem inn_append (Q R : List (Option Int)) : inn (Q ++ R) = inn Q ++ inn R := List.filterMap_append ..
end Go.Proofs.Ytlbeelgfpbkdbaa.E
