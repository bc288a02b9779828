/-
  Interval trees: a query goes through a tree.
-/
import Derived.Test.YthapmkjmfkmnoaaAt9
namespace Go.Proofs.Ythapmkjmfkmnoaa.E
open Go
set_option linter.unusedSimpArgs false
set_option linter.unusedVariables false
set_option maxRecDepth 100000
set_option maxHeartbeats 8000000

open Tr
section
variable {D : List Nat} {s : St} {n6 lo m : Nat} {y : Spn}
def fnV (n6 : Nat) : Value := .func (.func 44) #[] #[.pointer (some ⟨n6, 0, none⟩)]
/-- The state of a query: the nodes, what is asked, what is found. -/
def QS (w00 w : World) (D : List Nat) (s : St) (y : Spn) (n6 lo : Nat) (X : List Spn) : Prop := MS w D s ∧ SpOk w y ∧ FL w n6 lo X ∧ lo ≤ w.heap.size ∧ lo ≤ n6 ∧ Fr (fun b => lo ≤ b) w00 w
theorem QS.fr0 {w00 w w' : World} {X : List Spn} (h : QS w00 w D s y n6 lo X) (f : Fr (fun _ => False) w w') : QS w00 w' D s y n6 lo X := by
  obtain ⟨h1, h2, ⟨p, l, c, B, O, hp⟩, h4, h5, h6⟩ := h
  exact ⟨h1.fr0 f, h2.fr0 f, ⟨p, l, c, B.fr f id, O.fr f fun _ _ => id, hp⟩, by have := f.size; omega, h5, h6.trans f fun _ h => h.elim⟩
theorem F43_spec {w00 : World} (hm : 1 ≤ m) (hm9 : m < 100) (hF44 : ∀ {w : World} {k : Value → W} {b : Nat} {x : Spn} {X : List Spn}, QS w00 w D s y n6 lo X → b ∈ D → (s b).x = some x → X.length < 1000000 → (∀ w', QS w00 w' D s y n6 lo (X ++ [x]) → k (.tuple #[]) w') → F44 k (some ⟨b, 0, none⟩) ⟨n6, 0, none⟩ w) :
    ∀ (t : Tr) {w : World} {k : Value → W} {b : Nat} {X : List Spn}, Rep s (some b) t → Bnd s t → (∀ z ∈ t.ino, z ∈ D) → Has s t → QS w00 w D s y n6 lo X → X.length + t.ino.length < 1000000 → (∀ w', QS w00 w' D s y n6 lo (X ++ got s y m t) → k (.tuple #[]) w') → F43 k (some ⟨b, 0, none⟩) y.lo y.hi y.v ((m : Nat) : Int) (fnV n6) w
  | .lf, _, _, _, _, hR, _, _, _, _, _, _ => hR.elim
  | .nd l a r, w, k, b, X, ⟨ea, hl, hr⟩, ⟨hall, bl', br⟩, hD, hx, hQ, hlen, hk => by
    subst ea
    have ll0 : (Tr.nd l a r).ino.length = l.ino.length + (r.ino.length + 1) := by simp [ino]
    rw [ll0] at hlen
    have ma : a ∈ D := hD a (by simp [ino])
    have ml : ∀ z ∈ l.ino, z ∈ D := fun z hz => hD z (by simp [ino, hz])
    have mr : ∀ z ∈ r.ino, z ∈ D := fun z hz => hD z (by simp [ino, hz])
    obtain ⟨x, hxa⟩ := Option.ne_none_iff_exists'.1 (hx a (by simp [ino]))
    have ll : (Tr.nd l a r).ino.length = l.ino.length + (r.ino.length + 1) := by simp [ino]
    have sub : ∀ {o : Option Nat} {t : Tr}, Rep s o t → ∀ c, o = some c → c ∈ t.ino := fun {o t} h c e => by
      subst e
      cases t with
      | lf => exact h.elim
      | nd l' b' r' => obtain ⟨rfl, _⟩ := h; simp [ino]
    -- the right side
    have J4 : ∀ {w4 : World} {X4 : List Spn}, QS w00 w4 D s y n6 lo X4 → X4.length + r.ino.length < 1000000 → (∀ w', QS w00 w' D s y n6 lo (X4 ++ got s y m r) → k (.tuple #[]) w') → F43_J3 k (some ⟨a, 0, none⟩) y.lo y.hi y.v ((m : Nat) : Int) (fnV n6) w4 := fun {w4 X4} q4 l4 hk4 => by
      unfold F43_J3
      refine drw_intro fun w5 f5 z5 => ?_
      have q5 := q4.fr0 f5
      simp only [NN_mk, add_mk, Nat.zero_add]
      rw [show ((1 : Int).toNat) = 1 from rfl]
      refine Req_iff.2 ⟨by decide, ld_ch (d := 1) q5.1 ma (by decide) ?_⟩
      show BIf (!(oA (s a).c1).isNone) _ _ w5
      cases hc : (s a).c1 with
      | none =>
        show BIf false _ _ w5
        rw [BIf_false]
        rw [hc] at hr
        have er : r = .lf := by cases r with
          | lf => rfl
          | nd _ _ _ => exact hr.elim
        unfold F43_J4
        rw [BIf_false]
        subst er
        exact hk4 w5 (by simpa [got] using q5)
      | some c =>
        show BIf true _ _ w5
        rw [BIf_true]
        have mc : c ∈ D := mr c (sub hr c hc)
        have e1 : ch (s a) 1 = some c := hc
        refine Req_iff.2 ⟨by decide, ld_ch (d := 1) q5.1 ma (by decide) ?_⟩
        rw [e1]
        simp only [oA_some, NN_mk, add_mk, Nat.zero_add]
        refine ld_mx q5.1 mc ?_
        refine Req_iff.2 ⟨by decide, ld_ch (d := 1) q5.1 ma (by decide) ?_⟩
        rw [e1]
        simp only [oA_some, NN_mk, add_mk, Nat.zero_add]
        refine ld_mn q5.1 mc (F53_call (F53_spec (back_bool ?_)))
        have cc : w5.cell? ⟨a, 3 + 1, none⟩ = some (.pointer (some ⟨c, 0, none⟩)) := by
          have := (q5.1 a ma).1
          rw [this.cell]; simp [ndc, hc]
        refine ⟨cc, cc, cc, ?_⟩
        unfold F43_J4
        cases ho : ovl (s c).mx y.hi (s c).mn y.lo with
        | false =>
          rw [BIf_false]
          have hp := pruned (y := y) (m := m) (a := c) (t := r) (s := s) (fun z hz => br.root hr hc hz) ho
          rw [hp, List.append_nil] at hk4
          exact hk4 w5 q5
        | true =>
          rw [BIf_true]
          simp only [NN_mk, add_mk, Nat.zero_add]
          rw [show ((1 : Int).toNat) = 1 from rfl]
          refine Req_iff.2 ⟨by decide, ld_ch (d := 1) q5.1 ma (by decide) ?_⟩
          rw [e1]
          rw [hc] at hr
          exact F43_call (F43_spec hm hm9 hF44 r hr br mr (fun z hz => hx z (by simp [ino, hz])) q5 l4 fun w' q' => back0 (hk4 w' q'))
    have gotE : got s y m (Tr.nd l a r) = got s y m l ++ (at1 s y m a ++ got s y m r) := rfl
    have alen : (at1 s y m a).length ≤ 1 := by unfold at1; split <;> (try split) <;> simp
    -- the node itself
    have J2 : ∀ {w4 : World}, QS w00 w4 D s y n6 lo (X ++ got s y m l) → (got s y m l).length ≤ l.ino.length → F43_J2 k (some ⟨a, 0, none⟩) y.lo y.hi y.v ((m : Nat) : Int) (fnV n6) w4 := fun {w4} q4 gl => by
      unfold F43_J2
      refine F54_call (F54_spec q4.1 ma hxa q4.2.1 hm hm9 fun w5 f5 => back_bool ?_)
      have q5 := q4.fr0 f5
      have e1 : at1 s y m a = if ovA x y m then [x] else [] := by unfold at1; rw [hxa]
      cases ho : ovA x y m with
      | false =>
        rw [BIf_false]
        rw [ho] at e1
        refine J4 q5 (by simp; omega) fun w' q' => hk w' ?_
        rw [gotE, e1]
        simpa using q'
      | true =>
        rw [BIf_true]
        rw [ho] at e1
        refine NextT_enter (callV_enter ent44) (F44_calls (hF44 q5 ma hxa (by simp; omega) fun w6 q6 => back0 ?_))
        refine J4 q6 (by simp; omega) fun w' q' => hk w' ?_
        rw [gotE, e1]
        simpa using q'
    have glen : ∀ t : Tr, (got s y m t).length ≤ t.ino.length := fun t => by
      induction t with
      | lf => exact Nat.le_refl _
      | nd l b r h1 h2 =>
        have : (at1 s y m b).length ≤ 1 := by unfold at1; split <;> (try split) <;> simp
        simp only [got, ino, List.length_append, List.length_cons]; omega
    unfold F43
    refine drw_intro fun w5 f5 z5 => ?_
    have q5 := hQ.fr0 f5
    simp only [NN_mk, add_mk, Nat.zero_add]
    rw [show ((0 : Int).toNat) = 0 from rfl]
    refine Req_iff.2 ⟨by decide, ld_ch (d := 0) q5.1 ma (by decide) ?_⟩
    show BIf (!(oA (s a).c0).isNone) _ _ w5
    cases hc : (s a).c0 with
    | none =>
      show BIf false _ _ w5
      rw [BIf_false]
      rw [hc] at hl
      have er : l = .lf := by cases l with
        | lf => rfl
        | nd _ _ _ => exact hl.elim
      unfold F43_J1
      rw [BIf_false]
      refine J2 ?_ (glen l)
      rw [er]
      simpa [got] using q5
    | some c =>
      show BIf true _ _ w5
      rw [BIf_true]
      have mc : c ∈ D := ml c (sub hl c hc)
      have e1 : ch (s a) 0 = some c := hc
      refine Req_iff.2 ⟨by decide, ld_ch (d := 0) q5.1 ma (by decide) ?_⟩
      rw [e1]
      simp only [oA_some, NN_mk, add_mk, Nat.zero_add]
      refine ld_mx q5.1 mc ?_
      refine Req_iff.2 ⟨by decide, ld_ch (d := 0) q5.1 ma (by decide) ?_⟩
      rw [e1]
      simp only [oA_some, NN_mk, add_mk, Nat.zero_add]
      refine ld_mn q5.1 mc (F53_call (F53_spec (back_bool ?_)))
      have cc : w5.cell? ⟨a, 3 + 0, none⟩ = some (.pointer (some ⟨c, 0, none⟩)) := by
        have := (q5.1 a ma).1
        rw [this.cell]; simp [ndc, hc]
      refine ⟨cc, cc, cc, ?_⟩
      unfold F43_J1
      cases ho : ovl (s c).mx y.hi (s c).mn y.lo with
      | false =>
        rw [BIf_false]
        have hp := pruned (y := y) (m := m) (a := c) (t := l) (s := s) (fun z hz => bl'.root hl hc hz) ho
        refine J2 ?_ (glen l)
        rw [hp, List.append_nil]; exact q5
      | true =>
        rw [BIf_true]
        simp only [NN_mk, add_mk, Nat.zero_add]
        rw [show ((0 : Int).toNat) = 0 from rfl]
        refine Req_iff.2 ⟨by decide, ld_ch (d := 0) q5.1 ma (by decide) ?_⟩
        rw [e1]
        rw [hc] at hl
        exact F43_call (F43_spec hm hm9 hF44 l hl bl' ml (fun z hz => hx z (by simp [ino, hz])) q5 (by omega) fun w' q' => back0 (J2 q' (glen l)))
/-- A query of a tree. -/
theorem query_spec {t : Tr} {w00 w : World} {k : Value → W} {b : Nat} {X : List Spn} (hm : 1 ≤ m) (hm9 : m < 100) (hR : Rep s (some b) t) (hB : Bnd s t) (hD : ∀ z ∈ t.ino, z ∈ D) (hx : Has s t) (hQ : QS w00 w D s y n6 lo X) (hl : X.length + t.ino.length < 1000000) (hk : ∀ w', QS w00 w' D s y n6 lo (X ++ got s y m t) → k (.tuple #[]) w') :
    F43 k (some ⟨b, 0, none⟩) y.lo y.hi y.v ((m : Nat) : Int) (fnV n6) w :=
  F43_spec hm hm9 (fun {w k b x X} q mb hxb hl hk => F44_spec q.1 mb hxb q.2.2.1 hl q.2.2.2.1 q.2.2.2.2.1 q.2.1 fun w' h1 h2 h3 h4 h5 => hk w' ⟨h1, h4, h2, by have := q.2.2.2.1; omega, q.2.2.2.2.1, q.2.2.2.2.2.trans h5 fun b hb => .inl hb⟩) t hR hB hD hx hQ hl hk
end
end Go.Proofs.Ythapmkjmfkmnoaa.E