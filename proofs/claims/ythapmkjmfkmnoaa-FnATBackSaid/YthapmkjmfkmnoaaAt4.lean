/-
  Interval trees: plain trees; what a rotation does to one.
-/
import Derived.Test.YthapmkjmfkmnoaaAt3
namespace Go.Proofs.Ythapmkjmfkmnoaa.E
open Go
set_option linter.unusedSimpArgs false
set_option linter.unusedVariables false
set_option maxRecDepth 100000
set_option maxHeartbeats 4000000

/-- Trees of nodes (by their blocks). -/
inductive Tr where
  | lf : Tr
  | nd : Tr → Nat → Tr → Tr
namespace Tr
def ino : Tr → List Nat
  | lf => []
  | nd l b r => l.ino ++ b :: r.ino
/-- The child at side d is x, the other one y. -/
def mk (d : Nat) (x : Tr) (b : Nat) (y : Tr) : Tr := if d = 0 then nd x b y else nd y b x
theorem ino_rot (d : Nat) (A B C : Tr) (b c : Nat) : (mk d A b (mk d B c C)).ino = (mk d (mk d A b B) c C).ino := by
  unfold mk; split <;> simp [ino]
theorem mem_mk {d : Nat} {x y : Tr} {b a : Nat} : a ∈ (mk d x b y).ino ↔ a ∈ x.ino ∨ a = b ∨ a ∈ y.ino := by
  unfold mk; split <;> simp [ino]
  constructor
  · rintro (h | h | h)
    · exact .inr (.inr h)
    · exact .inr (.inl h)
    · exact .inl h
  · rintro (h | h | h)
    · exact .inr (.inr h)
    · exact .inr (.inl h)
    · exact .inl h
theorem ino_perm (d : Nat) (x y : Tr) (b : Nat) : (mk d x b y).ino.Perm (b :: (x.ino ++ y.ino)) := by
  unfold mk; split
  · exact List.perm_middle
  · exact List.perm_middle.trans (List.Perm.cons _ List.perm_append_comm)
end Tr
open Tr
/-- A tree that a state holds. -/
def Rep (s : St) : Option Nat → Tr → Prop
  | none, .lf => True
  | some b, .nd l a r => a = b ∧ Rep s (s b).c0 l ∧ Rep s (s b).c1 r
  | _, _ => False
theorem Rep.mk_iff {s : St} {b a d : Nat} {x y : Tr} (hd : d < 2) : Rep s (some b) (Tr.mk d x a y) ↔ a = b ∧ Rep s (ch (s b) d) x ∧ Rep s (ch (s b) (1 - d)) y := by
  have : d = 0 ∨ d = 1 := by omega
  rcases this with rfl | rfl
  · exact Iff.rfl
  · constructor
    · rintro ⟨h1, h2, h3⟩; exact ⟨h1, h3, h2⟩
    · rintro ⟨h1, h2, h3⟩; exact ⟨h1, h3, h2⟩
theorem Rep.frame {s s' : St} : ∀ {t : Tr} {o : Option Nat}, Rep s o t → (∀ b ∈ t.ino, (s' b).c0 = (s b).c0 ∧ (s' b).c1 = (s b).c1) → Rep s' o t
  | .lf, none, h, _ => h
  | .lf, some _, h, _ => h.elim
  | .nd l a r, none, h, _ => h.elim
  | .nd l a r, some b, ⟨h1, h2, h3⟩, hf => by
    subst h1
    have ha := hf a (by simp [ino])
    exact ⟨rfl, by rw [ha.1]; exact Rep.frame h2 fun b hb => hf b (by simp [ino, hb]), by rw [ha.2]; exact Rep.frame h3 fun b hb => hf b (by simp [ino, hb])⟩
theorem Rep.clo {s : St} {D : List Nat} : ∀ {t : Tr} {o : Option Nat}, Rep s o t → (∀ b ∈ t.ino, b ∈ D) → ∀ b, o = some b → b ∈ D
  | .lf, some _, h, _, _, _ => h.elim
  | .nd l a r, some b, ⟨h1, h2, h3⟩, hD, c, hc => by cases hc; subst h1; exact hD a (by simp [ino])
  | .lf, none, _, _, _, hc => by cases hc
  | .nd l a r, none, h, _, _, _ => h.elim
theorem two_nodup {A B C : Tr} {b c d : Nat} (hn : (Tr.mk d A b (Tr.mk d B c C)).ino.Nodup) : b ∉ A.ino ∧ c ∉ A.ino ∧ b ∉ B.ino ∧ c ∉ B.ino ∧ b ∉ C.ino ∧ c ∉ C.ino ∧ b ≠ c := by
  have p : (Tr.mk d A b (Tr.mk d B c C)).ino.Perm (b :: (A.ino ++ c :: (B.ino ++ C.ino))) := (Tr.ino_perm d A _ b).trans (List.Perm.cons _ (List.Perm.append_left _ (Tr.ino_perm d B C c)))
  have := p.nodup_iff.1 hn
  simp only [List.nodup_cons, List.nodup_append, List.mem_append, List.mem_cons, not_or] at this
  obtain ⟨⟨h1, h2, h3, h4⟩, _, ⟨⟨h5, h6⟩, _⟩, h7⟩ := this
  exact ⟨h1, fun h => h7 c h c (.inl rfl) rfl, h3, h5, h4, h6, h2⟩
/-! ## A rotated state, node by node -/
section
variable {s : St} {b c d : Nat} {xb xc : Spn}
theorem rot_other {y : Nat} (h1 : y ≠ b) (h2 : y ≠ c) : rot s b c d xb xc y = s y := by
  unfold rot setMn setMx rotL
  simp only [up_ne h1, up_ne h2]
theorem rot_ch (y : Nat) : (rot s b c d xb xc y).c0 = (rotL s b c d y).c0 ∧ (rot s b c d xb xc y).c1 = (rotL s b c d y).c1 ∧ (rot s b c d xb xc y).x = (rotL s b c d y).x ∧ (rot s b c d xb xc y).red = (rotL s b c d y).red := by
  unfold rot
  have a1 := setMn_c (setMn (setMx (setMx (rotL s b c d) c xc) b xb) c xc) b xb y
  have a2 := setMn_c (setMx (setMx (rotL s b c d) c xc) b xb) c xc y
  have a3 := setMx_c (setMx (rotL s b c d) c xc) b xb y
  have a4 := setMx_c (rotL s b c d) c xc y
  exact ⟨by rw [a1.1, a2.1, a3.1, a4.1], by rw [a1.2.1, a2.2.1, a3.2.1, a4.2.1], by rw [a1.2.2.1, a2.2.2.1, a3.2.2.1, a4.2.2.1], by rw [a1.2.2.2, a2.2.2.2, a3.2.2.2, a4.2.2.2]⟩
theorem ch_of {n n' : Nn} (h0 : n.c0 = n'.c0) (h1 : n.c1 = n'.c1) (d : Nat) : ch n d = ch n' d := by unfold ch; split <;> assumption
theorem rotL_b (hbc : b ≠ c) : rotL s b c d b = { setC (s b) (1 - d) (ch (s c) d) with red := true } := by unfold rotL; rw [up_ne hbc, up_same]
theorem rotL_c : rotL s b c d c = { setC (s c) d (some b) with red := false, mx := (s b).mx } := by unfold rotL; rw [up_same]
theorem rotL_other {y : Nat} (h1 : y ≠ b) (h2 : y ≠ c) : rotL s b c d y = s y := by unfold rotL; rw [up_ne h2, up_ne h1]
/-- What the links of a rotated tree are. -/
theorem rot_rep {A B C : Tr} (hd : d < 2) (h : Rep s (some b) (Tr.mk d A b (Tr.mk d B c C))) (hn : (Tr.mk d A b (Tr.mk d B c C)).ino.Nodup) : Rep (rot s b c d xb xc) (some c) (Tr.mk d (Tr.mk d A b B) c C) := by
  rw [Rep.mk_iff hd] at h
  obtain ⟨_, hA, hr⟩ := h
  obtain ⟨n1, n2, n3, n4, n5, n6, hbc⟩ := two_nodup hn
  have hcc : ∃ c', ch (s b) (1 - d) = some c' := by
    cases hc : ch (s b) (1 - d) with
    | none => rw [hc] at hr; unfold Tr.mk at hr; split at hr <;> exact hr.elim
    | some c' => exact ⟨c', rfl⟩
  obtain ⟨c', hc'⟩ := hcc
  rw [hc', Rep.mk_iff hd] at hr
  obtain ⟨rfl, hB, hC⟩ := hr
  have fr : ∀ {t : Tr} {o : Option Nat}, Rep s o t → b ∉ t.ino → c ∉ t.ino → Rep (rot s b c d xb xc) o t := fun h hb hc => h.frame fun y hy => by
    rw [rot_other (y := y) (fun e => hb (by rw [← e]; exact hy)) (fun e => hc (by rw [← e]; exact hy))]; exact ⟨rfl, rfl⟩
  have hchb : ∀ e, ch (rot s b c d xb xc b) e = ch (setC (s b) (1 - d) (ch (s c) d)) e := fun e => by
    obtain ⟨g0, g1, _⟩ := rot_ch (s := s) (b := b) (c := c) (d := d) (xb := xb) (xc := xc) b
    rw [rotL_b hbc] at g0 g1
    exact ch_of g0 g1 e
  have hchc : ∀ e, ch (rot s b c d xb xc c) e = ch (setC (s c) d (some b)) e := fun e => by
    obtain ⟨g0, g1, _⟩ := rot_ch (s := s) (b := b) (c := c) (d := d) (xb := xb) (xc := xc) c
    rw [rotL_c] at g0 g1
    exact ch_of g0 g1 e
  rw [Rep.mk_iff hd]
  refine ⟨rfl, ?_, ?_⟩
  · rw [hchc, ch_setC, Rep.mk_iff hd]
    refine ⟨rfl, ?_, ?_⟩
    · rw [hchb, ch_setC_ne _ _ (by omega) hd (by omega)]; exact fr hA n1 n2
    · rw [hchb, ch_setC]; exact fr hB n3 n4
  · rw [hchc, ch_setC_ne _ _ hd (by omega) (by omega)]; exact fr hC n5 n6
/-- The colours behind a rotation. -/
theorem rot_red (hbc : b ≠ c) : (rot s b c d xb xc b).red = true ∧ (rot s b c d xb xc c).red = false ∧ (rot s b c d xb xc b).x = (s b).x ∧ (rot s b c d xb xc c).x = (s c).x := by
  have h1 := rot_ch (s := s) (b := b) (c := c) (d := d) (xb := xb) (xc := xc) b
  have h2 := rot_ch (s := s) (b := b) (c := c) (d := d) (xb := xb) (xc := xc) c
  refine ⟨by rw [h1.2.2.2, rotL_b hbc], by rw [h2.2.2.2, rotL_c], by rw [h1.2.2.1, rotL_b hbc]; exact setC_x _ _ _, by rw [h2.2.2.1, rotL_c]; exact setC_x _ _ _⟩
theorem rot_x (hbc : b ≠ c) (y : Nat) : (rot s b c d xb xc y).x = (s y).x := by
  by_cases h1 : y = b
  · rw [h1]; exact (rot_red hbc).2.2.1
  · by_cases h2 : y = c
    · rw [h2]; exact (rot_red hbc).2.2.2
    · rw [rot_other h1 h2]
/-! ## Bounds -/
def hiS (s : St) (y : Nat) : Int := ((s y).x.map Spn.hi).getD 0
def loS (s : St) (y : Nat) : Int := ((s y).x.map Spn.lo).getD 0
/-- A node's ends bound those of all below it. -/
def Bd (s : St) (o : Option Nat) (t : Tr) : Prop := ∀ b, o = some b → ∀ y ∈ t.ino, hiS s y ≤ (s b).mx ∧ (s b).mn ≤ loS s y
def Bnd (s : St) : Tr → Prop
  | .lf => True
  | .nd l b r => (∀ y ∈ (Tr.nd l b r).ino, hiS s y ≤ (s b).mx ∧ (s b).mn ≤ loS s y) ∧ Bnd s l ∧ Bnd s r
end
end Go.Proofs.Ythapmkjmfkmnoaa.E