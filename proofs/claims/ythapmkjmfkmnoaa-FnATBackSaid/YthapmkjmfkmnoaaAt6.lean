/-
  Interval trees: a rotation of a tree that a state holds (the links, the bounds, the colours), as one contract.
-/
import Derived.Test.YthapmkjmfkmnoaaAt5
namespace Go.Proofs.Ythapmkjmfkmnoaa.E
open Go
set_option linter.unusedSimpArgs false
set_option linter.unusedVariables false
set_option maxRecDepth 100000
set_option maxHeartbeats 4000000

open Tr
theorem Fine.of {D : List Nat} {S : St} {b : Nat} {x : Spn} (m : b ∈ D) (hx : (S b).x = some x) (h : ∀ e, e < 2 → ∀ a, ch (S b) e = some a → a ∈ D ∧ a ≠ b) : Fine D S b x :=
  ⟨m, hx, ⟨fun a ha => (h 0 (by decide) a ha).1, fun a ha => (h 1 (by decide) a ha).1⟩, fun ha => (h 0 (by decide) b ha).2 rfl, fun ha => (h 1 (by decide) b ha).2 rfl⟩
theorem Rep.some_mk {s : St} {o : Option Nat} {d a : Nat} {x y : Tr} (h : Rep s o (Tr.mk d x a y)) : o = some a := by
  unfold Tr.mk at h
  cases o with
  | none => split at h <;> exact h.elim
  | some b => split at h <;> (obtain ⟨h1, _⟩ := h; rw [h1])
theorem rot_fine {s : St} {b c d : Nat} {xb xc : Spn} {D : List Nat} {A B C : Tr} (hd : d < 2) (h : Rep s (some b) (Tr.mk d A b (Tr.mk d B c C))) (hn : (Tr.mk d A b (Tr.mk d B c C)).ino.Nodup) (hD : ∀ y ∈ (Tr.mk d A b (Tr.mk d B c C)).ino, y ∈ D) (hb : (s b).x = some xb) (hc : (s c).x = some xc) :
    Fine D (rotL s b c d) b xb ∧ Fine D (rotL s b c d) c xc ∧ ch (s b) (1 - d) = some c ∧ b ∈ D ∧ c ∈ D ∧ b ≠ c := by
  obtain ⟨n1, n2, n3, n4, n5, n6, hbc⟩ := two_nodup hn
  rw [Rep.mk_iff hd] at h
  obtain ⟨_, hA, hr⟩ := h
  have hc' := hr.some_mk
  rw [hc', Rep.mk_iff hd] at hr
  obtain ⟨_, hB, hC⟩ := hr
  have dA : ∀ y ∈ A.ino, y ∈ D := fun y hy => hD y (by rw [Tr.mem_mk]; exact .inl hy)
  have dB : ∀ y ∈ B.ino, y ∈ D := fun y hy => hD y (by rw [Tr.mem_mk, Tr.mem_mk]; exact .inr (.inr (.inl hy)))
  have dC : ∀ y ∈ C.ino, y ∈ D := fun y hy => hD y (by rw [Tr.mem_mk, Tr.mem_mk]; exact .inr (.inr (.inr (.inr hy))))
  have db : b ∈ D := hD b (by rw [Tr.mem_mk]; exact .inr (.inl rfl))
  have dc : c ∈ D := hD c (by rw [Tr.mem_mk, Tr.mem_mk]; exact .inr (.inr (.inr (.inl rfl))))
  have rt : ∀ {t : Tr} {o : Option Nat} {a : Nat}, Rep s o t → o = some a → a ∈ t.ino := fun {t o a} h e => by
    subst e
    cases t with
    | lf => exact h.elim
    | nd l b r => obtain ⟨rfl, _⟩ := h; simp [ino]
  have xB : (rotL s b c d b).x = some xb := by rw [rotL_b hbc]; show (setC (s b) (1 - d) (ch (s c) d)).x = _; rw [setC_x]; exact hb
  have xC : (rotL s b c d c).x = some xc := by rw [rotL_c]; show (setC (s c) d (some b)).x = _; rw [setC_x]; exact hc
  have two : ∀ e, e < 2 → e = d ∨ e = 1 - d := fun e he => by omega
  refine ⟨Fine.of db xB fun e he a ha => ?_, Fine.of dc xC fun e he a ha => ?_, hc', db, dc, hbc⟩
  · rw [rotL_b hbc] at ha
    have ha : ch (setC (s b) (1 - d) (ch (s c) d)) e = some a := ha
    rcases two e he with rfl | rfl
    · rw [ch_setC_ne _ _ (by omega) he (by omega)] at ha
      have := rt hA ha
      exact ⟨dA a this, fun e => n1 (by rw [← e]; exact this)⟩
    · rw [ch_setC] at ha
      have := rt hB ha
      exact ⟨dB a this, fun e => n3 (by rw [← e]; exact this)⟩
  · rw [rotL_c] at ha
    have ha : ch (setC (s c) d (some b)) e = some a := ha
    rcases two e he with rfl | rfl
    · rw [ch_setC] at ha
      cases ha
      exact ⟨db, hbc⟩
    · rw [ch_setC_ne _ _ hd he (by omega)] at ha
      have := rt hC ha
      exact ⟨dC a this, fun e => n6 (by rw [← e]; exact this)⟩
/-- Nodes have intervals. -/
def Has (s : St) (t : Tr) : Prop := ∀ y ∈ t.ino, (s y).x ≠ none
/-- The ends of the node that comes up bound what the one that was there bounded. -/
theorem rot_top {s : St} {b c d : Nat} {xb xc : Spn} (hd : d < 2) (hbc : b ≠ c) : (s b).mx ≤ (rot s b c d xb xc c).mx ∧ (rot s b c d xb xc c).mn ≤ (s b).mn := by
  have hcb : c ≠ b := Ne.symm hbc
  have cmx : (rot s b c d xb xc c).mx = mxOf (rotL s b c d) (rotL s b c d c) xc := by
    unfold rot; rw [setMn_mx, setMn_mx, setMx_ne hcb, setMx_self]
  have cmn : (rot s b c d xb xc c).mn = mnOf (setMx (setMx (rotL s b c d) c xc) b xb) (setMx (setMx (rotL s b c d) c xc) b xb c) xc := by
    unfold rot; rw [setMn_ne hcb, setMn_self]
  have lb_mx : (rotL s b c d b).mx = (s b).mx ∧ (rotL s b c d b).mn = (s b).mn := by
    rw [rotL_b hbc]
    exact ⟨setC_mx _ _ _, by show (setC (s b) (1 - d) (ch (s c) d)).mn = _; unfold setC; split <;> rfl⟩
  have chc_d : ch (rotL s b c d c) d = some b := by
    have : ch (rotL s b c d c) d = ch (setC (s c) d (some b)) d := by rw [rotL_c]; rfl
    rw [this, ch_setC]
  obtain ⟨gc1, gc2⟩ := mxOf_ge (rotL s b c d) (rotL s b c d c) xc
  obtain ⟨kc1, kc2⟩ := mnOf_le (setMx (setMx (rotL s b c d) c xc) b xb) (setMx (setMx (rotL s b c d) c xc) b xb c) xc
  rw [← cmx] at gc2
  rw [← cmn] at kc2
  have h1 := gc2 d b chc_d
  have h2 := kc2 d b (by rw [ch_mx, ch_mx]; exact chc_d)
  rw [lb_mx.1] at h1
  rw [setMx_mn, setMx_mn, lb_mx.2] at h2
  exact ⟨h1, h2⟩
/-- rotate, of a tree. -/
theorem rotate_spec {w : World} {D : List Nat} {s : St} {b c d : Nat} {k : Value → W} {A B C : Tr} (h : MS w D s) (hd : d < 2) (hR : Rep s (some b) (Tr.mk d A b (Tr.mk d B c C))) (hn : (Tr.mk d A b (Tr.mk d B c C)).ino.Nodup) (hD : ∀ y ∈ (Tr.mk d A b (Tr.mk d B c C)).ino, y ∈ D) (hx : Has s (Tr.mk d A b (Tr.mk d B c C)))
    (hk : ∀ w' s', MS w' D s' → Rep s' (some c) (Tr.mk d (Tr.mk d A b B) c C) → (Bnd s (Tr.mk d A b (Tr.mk d B c C)) → Bnd s' (Tr.mk d (Tr.mk d A b B) c C)) → (s b).mx ≤ (s' c).mx ∧ (s' c).mn ≤ (s b).mn → (∀ y, (s' y).x = (s y).x) → (s' b).red = true → (s' c).red = false → (∀ y, y ≠ b → y ≠ c → s' y = s y) → Fr (fun y => y = b ∨ y = c) w w' → k (.pointer (some ⟨c, 0, none⟩)) w') :
    F48 k (some ⟨b, 0, none⟩) ((d : Nat) : Int) w := by
  have mb : b ∈ (Tr.mk d A b (Tr.mk d B c C)).ino := by rw [Tr.mem_mk]; exact .inr (.inl rfl)
  have mc : c ∈ (Tr.mk d A b (Tr.mk d B c C)).ino := by rw [Tr.mem_mk, Tr.mem_mk]; exact .inr (.inr (.inr (.inl rfl)))
  obtain ⟨xb, hb⟩ := Option.ne_none_iff_exists'.1 (hx b mb)
  obtain ⟨xc, hc⟩ := Option.ne_none_iff_exists'.1 (hx c mc)
  obtain ⟨f1, f2, f3, f4, f5, hbc⟩ := rot_fine hd hR hn hD hb hc
  refine F48_spec h hd f4 f5 hbc f3 f1 f2 fun w' m' f' => hk w' _ m' (rot_rep hd hR hn) (rot_bnd hd hR hn hb hc) (rot_top hd hbc) (rot_x hbc) (rot_red hbc).1 (rot_red hbc).2.1 (fun y h1 h2 => rot_other h1 h2) f'
end Go.Proofs.Ythapmkjmfkmnoaa.E
