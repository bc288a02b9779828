/-
  Interval trees: the bounds behind a rotation.
-/
import Derived.Test.YthapmkjmfkmnoaaAt4
namespace Go.Proofs.Ythapmkjmfkmnoaa.E
open Go
set_option linter.unusedSimpArgs false
set_option linter.unusedVariables false
set_option maxRecDepth 100000
set_option maxHeartbeats 4000000

open Tr
theorem Bnd.mk_iff {s : St} {d b : Nat} {x y : Tr} : Bnd s (Tr.mk d x b y) ↔ (∀ z ∈ (Tr.mk d x b y).ino, hiS s z ≤ (s b).mx ∧ (s b).mn ≤ loS s z) ∧ Bnd s x ∧ Bnd s y := by
  unfold Tr.mk; split
  · exact Iff.rfl
  · constructor
    · rintro ⟨h1, h2, h3⟩; exact ⟨h1, h3, h2⟩
    · rintro ⟨h1, h2, h3⟩; exact ⟨h1, h3, h2⟩
theorem Bnd.frame {s s' : St} : ∀ {t : Tr}, Bnd s t → (∀ b ∈ t.ino, (s' b).mx = (s b).mx ∧ (s' b).mn = (s b).mn ∧ (s' b).x = (s b).x) → Bnd s' t
  | .lf, h, _ => trivial
  | .nd l a r, ⟨h1, h2, h3⟩, hf => by
    have ha := hf a (by simp [ino])
    refine ⟨fun y hy => ?_, Bnd.frame h2 fun b hb => hf b (by simp [ino, hb]), Bnd.frame h3 fun b hb => hf b (by simp [ino, hb])⟩
    have hy' := hf y hy
    unfold hiS loS
    rw [hy'.2.2, ha.1, ha.2.1]
    exact h1 y hy
theorem Rep.root {s : St} {o : Option Nat} {t : Tr} (h : Rep s o t) {z : Nat} (hz : z ∈ t.ino) : ∃ a, o = some a ∧ a ∈ t.ino := by
  cases t with
  | lf => cases hz
  | nd l a r =>
    cases o with
    | none => exact h.elim
    | some b => obtain ⟨rfl, _⟩ := h; exact ⟨a, rfl, by simp [ino]⟩
theorem Bnd.root {s : St} {o : Option Nat} {t : Tr} (h : Bnd s t) (hr : Rep s o t) {a : Nat} (ha : o = some a) {z : Nat} (hz : z ∈ t.ino) : hiS s z ≤ (s a).mx ∧ (s a).mn ≤ loS s z := by
  subst ha
  cases t with
  | lf => cases hz
  | nd l b r => obtain ⟨rfl, _⟩ := hr; exact h.1 z hz
theorem mxOf_ge (S : St) (n : Nn) (x : Spn) : x.hi ≤ mxOf S n x ∧ ∀ e a, ch n e = some a → (S a).mx ≤ mxOf S n x := by
  have one : ∀ (m : Int) (o : Option Nat), m ≤ mxO S m o ∧ ∀ a, o = some a → (S a).mx ≤ mxO S m o := fun m o => by
    cases o with
    | none => exact ⟨Int.le_refl _, fun a h => by cases h⟩
    | some c =>
      rw [mxO_some]
      split
      · exact ⟨by omega, fun a h => by cases h; exact Int.le_refl _⟩
      · exact ⟨Int.le_refl _, fun a h => by cases h; omega⟩
  unfold mxOf
  obtain ⟨h1, h2⟩ := one x.hi n.c0
  obtain ⟨h3, h4⟩ := one (mxO S x.hi n.c0) n.c1
  refine ⟨by omega, fun e a h => ?_⟩
  unfold ch at h
  split at h
  · exact Int.le_trans (h2 a h) h3
  · exact h4 a h
theorem mnOf_le (S : St) (n : Nn) (x : Spn) : mnOf S n x ≤ x.lo ∧ ∀ e a, ch n e = some a → mnOf S n x ≤ (S a).mn := by
  have one : ∀ (m : Int) (o : Option Nat), mnO S m o ≤ m ∧ ∀ a, o = some a → mnO S m o ≤ (S a).mn := fun m o => by
    cases o with
    | none => exact ⟨Int.le_refl _, fun a h => by cases h⟩
    | some c =>
      rw [mnO_some]
      split
      · exact ⟨by omega, fun a h => by cases h; exact Int.le_refl _⟩
      · exact ⟨Int.le_refl _, fun a h => by cases h; omega⟩
  unfold mnOf
  obtain ⟨h1, h2⟩ := one x.lo n.c0
  obtain ⟨h3, h4⟩ := one (mnO S x.lo n.c0) n.c1
  refine ⟨by omega, fun e a h => ?_⟩
  unfold ch at h
  split at h
  · exact Int.le_trans h3 (h2 a h)
  · exact h4 a h
theorem setMx_mn (s : St) (b : Nat) (x : Spn) (y : Nat) : ((setMx s b x) y).mn = (s y).mn := by
  unfold setMx up; split
  · rename_i h; subst h; rfl
  · rfl
theorem setMn_mx (s : St) (b : Nat) (x : Spn) (y : Nat) : ((setMn s b x) y).mx = (s y).mx := by
  unfold setMn up; split
  · rename_i h; subst h; rfl
  · rfl
theorem setMx_ne {s : St} {b y : Nat} {x : Spn} (h : y ≠ b) : setMx s b x y = s y := by unfold setMx; rw [up_ne h]
theorem setMn_ne {s : St} {b y : Nat} {x : Spn} (h : y ≠ b) : setMn s b x y = s y := by unfold setMn; rw [up_ne h]
theorem setMx_self (s : St) (b : Nat) (x : Spn) : (setMx s b x b).mx = mxOf s (s b) x := by unfold setMx; rw [up_same]
theorem setMn_self (s : St) (b : Nat) (x : Spn) : (setMn s b x b).mn = mnOf s (s b) x := by unfold setMn; rw [up_same]
section
variable {s : St} {b c d : Nat} {xb xc : Spn}
theorem ch_mx (S : St) (a y e : Nat) (x : Spn) : ch (setMx S a x y) e = ch (S y) e := ch_of (setMx_c S a x y).1 (setMx_c S a x y).2.1 e
theorem ch_mn (S : St) (a y e : Nat) (x : Spn) : ch (setMn S a x y) e = ch (S y) e := ch_of (setMn_c S a x y).1 (setMn_c S a x y).2.1 e
theorem rot_bnd {A B C : Tr} (hd : d < 2) (h : Rep s (some b) (Tr.mk d A b (Tr.mk d B c C))) (hn : (Tr.mk d A b (Tr.mk d B c C)).ino.Nodup) (hb : (s b).x = some xb) (hc : (s c).x = some xc) (hB : Bnd s (Tr.mk d A b (Tr.mk d B c C))) :
    Bnd (rot s b c d xb xc) (Tr.mk d (Tr.mk d A b B) c C) := by
  obtain ⟨n1, n2, n3, n4, n5, n6, hbc⟩ := two_nodup hn
  have hcb : c ≠ b := Ne.symm hbc
  rw [Rep.mk_iff hd] at h
  obtain ⟨_, hA, hr⟩ := h
  have hcc : ∃ c', ch (s b) (1 - d) = some c' := by
    cases hc : ch (s b) (1 - d) with
    | none => rw [hc] at hr; unfold Tr.mk at hr; split at hr <;> exact hr.elim
    | some c' => exact ⟨c', rfl⟩
  obtain ⟨c', hc'⟩ := hcc
  rw [hc', Rep.mk_iff hd] at hr
  obtain ⟨rfl, hBr, hC⟩ := hr
  rw [Bnd.mk_iff, Bnd.mk_iff] at hB
  obtain ⟨all, bA, _, bB, bC⟩ := hB
  have keep : ∀ {t : Tr}, Bnd s t → b ∉ t.ino → c ∉ t.ino → Bnd (rot s b c d xb xc) t := fun h h1 h2 => h.frame fun y hy => by
    rw [rot_other (y := y) (fun e => h1 (by rw [← e]; exact hy)) (fun e => h2 (by rw [← e]; exact hy))]; exact ⟨rfl, rfl, rfl⟩
  have ehi : ∀ y, hiS (rot s b c d xb xc) y = hiS s y := fun y => by unfold hiS; rw [rot_x hbc]
  have elo : ∀ y, loS (rot s b c d xb xc) y = loS s y := fun y => by unfold loS; rw [rot_x hbc]
  have hib : hiS s b = xb.hi ∧ loS s b = xb.lo := by unfold hiS loS; rw [hb]; exact ⟨rfl, rfl⟩
  have hic : hiS s c = xc.hi ∧ loS s c = xc.lo := by unfold hiS loS; rw [hc]; exact ⟨rfl, rfl⟩
  -- the ends of c, of b behind the rotation
  have cmx : (rot s b c d xb xc c).mx = mxOf (rotL s b c d) (rotL s b c d c) xc := by
    unfold rot; rw [setMn_mx, setMn_mx, setMx_ne hcb, setMx_self]
  have bmx : (rot s b c d xb xc b).mx = mxOf (setMx (rotL s b c d) c xc) (setMx (rotL s b c d) c xc b) xb := by
    unfold rot; rw [setMn_mx, setMn_mx, setMx_self]
  have cmn : (rot s b c d xb xc c).mn = mnOf (setMx (setMx (rotL s b c d) c xc) b xb) (setMx (setMx (rotL s b c d) c xc) b xb c) xc := by
    unfold rot; rw [setMn_ne hcb, setMn_self]
  have bmn : (rot s b c d xb xc b).mn = mnOf (setMn (setMx (setMx (rotL s b c d) c xc) b xb) c xc) (setMn (setMx (setMx (rotL s b c d) c xc) b xb) c xc b) xb := by
    unfold rot; rw [setMn_self]
  have lb_mx : (rotL s b c d b).mx = (s b).mx ∧ (rotL s b c d b).mn = (s b).mn := by
    rw [rotL_b hbc]
    exact ⟨setC_mx _ _ _, by show (setC (s b) (1 - d) (ch (s c) d)).mn = _; unfold setC; split <;> rfl⟩
  have chc : ∀ e, ch (rotL s b c d c) e = ch (setC (s c) d (some b)) e := fun e => by rw [rotL_c]; rfl
  have chb : ∀ e, ch (rotL s b c d b) e = ch (setC (s b) (1 - d) (ch (s c) d)) e := fun e => by rw [rotL_b hbc]; rfl
  have chc_d : ch (rotL s b c d c) d = some b := by rw [chc, ch_setC]
  have chc_e : ch (rotL s b c d c) (1 - d) = ch (s c) (1 - d) := by rw [chc, ch_setC_ne _ _ hd (by omega) (by omega)]
  have chb_d : ch (rotL s b c d b) d = ch (s b) d := by rw [chb, ch_setC_ne _ _ (by omega) hd (by omega)]
  have chb_e : ch (rotL s b c d b) (1 - d) = ch (s c) d := by rw [chb, ch_setC]
  have ne_of : ∀ {t : Tr} {a : Nat}, a ∈ t.ino → b ∉ t.ino → c ∉ t.ino → a ≠ b ∧ a ≠ c := fun ha h1 h2 => ⟨fun e => h1 (by rw [← e]; exact ha), fun e => h2 (by rw [← e]; exact ha)⟩
  obtain ⟨gc1, gc2⟩ := mxOf_ge (rotL s b c d) (rotL s b c d c) xc
  obtain ⟨gb1, gb2⟩ := mxOf_ge (setMx (rotL s b c d) c xc) (setMx (rotL s b c d) c xc b) xb
  obtain ⟨kc1, kc2⟩ := mnOf_le (setMx (setMx (rotL s b c d) c xc) b xb) (setMx (setMx (rotL s b c d) c xc) b xb c) xc
  obtain ⟨kb1, kb2⟩ := mnOf_le (setMn (setMx (setMx (rotL s b c d) c xc) b xb) c xc) (setMn (setMx (setMx (rotL s b c d) c xc) b xb) c xc b) xb
  rw [← cmx] at gc1 gc2
  rw [← bmx] at gb1 gb2
  rw [← cmn] at kc1 kc2
  rw [← bmn] at kb1 kb2
  -- what lies below b and c
  have viaC : ∀ z, hiS s z ≤ (s b).mx ∧ (s b).mn ≤ loS s z → hiS s z ≤ (rot s b c d xb xc c).mx ∧ (rot s b c d xb xc c).mn ≤ loS s z := fun z hz => by
    have h1 := gc2 d b chc_d
    have h2 := kc2 d b (by rw [ch_mx, ch_mx]; exact chc_d)
    rw [lb_mx.1] at h1
    rw [setMx_mn, setMx_mn, lb_mx.2] at h2
    omega
  have inC : ∀ z ∈ C.ino, hiS s z ≤ (rot s b c d xb xc c).mx ∧ (rot s b c d xb xc c).mn ≤ loS s z := fun z hz => by
    obtain ⟨a, ha, ham⟩ := hC.root hz
    obtain ⟨e1, e2⟩ := ne_of ham n5 n6
    have hz' := bC.root hC ha hz
    have h1 := gc2 (1 - d) a (by rw [chc_e, ha])
    have h2 := kc2 (1 - d) a (by rw [ch_mx, ch_mx, chc_e, ha])
    rw [rotL_other e1 e2] at h1
    rw [setMx_mn, setMx_mn, rotL_other e1 e2] at h2
    omega
  have inAB : ∀ (t : Tr) (e : Nat), Bnd s t → b ∉ t.ino → c ∉ t.ino → Rep s (ch (rotL s b c d b) e) t → ∀ z ∈ t.ino, hiS s z ≤ (rot s b c d xb xc b).mx ∧ (rot s b c d xb xc b).mn ≤ loS s z := fun t e bt m1 m2 rt z hz => by
    obtain ⟨a, ha, ham⟩ := rt.root hz
    obtain ⟨e1, e2⟩ := ne_of ham m1 m2
    have hz' := bt.root rt ha hz
    have h1 := gb2 e a (by rw [ch_mx, ha])
    have h2 := kb2 e a (by rw [ch_mn, ch_mx, ch_mx, ha])
    rw [setMx_ne e2, rotL_other e1 e2] at h1
    rw [setMn_ne e2, setMx_mn, setMx_mn, rotL_other e1 e2] at h2
    omega
  have inA := inAB A d bA n1 n2 (by rw [chb_d]; exact hA)
  have inB := inAB B (1 - d) bB n3 n4 (by rw [chb_e]; exact hBr)
  rw [Bnd.mk_iff, Bnd.mk_iff]
  refine ⟨fun z hz => ?_, ⟨fun z hz => ?_, keep bA n1 n2, keep bB n3 n4⟩, keep bC n5 n6⟩
  · rw [ehi, elo]
    rw [Tr.mem_mk, Tr.mem_mk] at hz
    rcases hz with (hz | rfl | hz) | rfl | hz
    · exact viaC z (all z (by rw [Tr.mem_mk]; exact .inl hz))
    · exact viaC z (all z (by rw [Tr.mem_mk]; exact .inr (.inl rfl)))
    · exact viaC z (all z (by rw [Tr.mem_mk, Tr.mem_mk]; exact .inr (.inr (.inl hz))))
    · rw [hic.1, hic.2]; exact ⟨gc1, kc1⟩
    · exact inC z hz
  · rw [ehi, elo]
    rw [Tr.mem_mk] at hz
    rcases hz with hz | rfl | hz
    · exact inA z hz
    · rw [hib.1, hib.2]; exact ⟨gb1, kb1⟩
    · exact inB z hz
end
end Go.Proofs.Ythapmkjmfkmnoaa.E
