/-
  Interval trees: all ends are set anew.
-/
import Derived.Test.YthapmkjmfkmnoaaAtB
namespace Go.Proofs.Ythapmkjmfkmnoaa.E
open Go
set_option linter.unusedSimpArgs false
set_option linter.unusedVariables false
set_option maxRecDepth 100000
set_option maxHeartbeats 8000000

open Tr
/-- The same links, intervals and colours. -/
def Alike (s s' : St) : Prop := ∀ y, (s' y).c0 = (s y).c0 ∧ (s' y).c1 = (s y).c1 ∧ (s' y).x = (s y).x ∧ (s' y).red = (s y).red
theorem Alike.refl (s : St) : Alike s s := fun y => ⟨rfl, rfl, rfl, rfl⟩
theorem Alike.trans {s s' s'' : St} (h : Alike s s') (h' : Alike s' s'') : Alike s s'' := fun y => ⟨(h' y).1.trans (h y).1, (h' y).2.1.trans (h y).2.1, (h' y).2.2.1.trans (h y).2.2.1, (h' y).2.2.2.trans (h y).2.2.2⟩
theorem alike_mx (s : St) (b : Nat) (x : Spn) : Alike s (setMx s b x) := fun y => setMx_c s b x y
theorem alike_mn (s : St) (b : Nat) (x : Spn) : Alike s (setMn s b x) := fun y => setMn_c s b x y
theorem Rep.alike {s s' : St} {o : Option Nat} {t : Tr} (h : Rep s o t) (a : Alike s s') : Rep s' o t := h.frame fun y _ => ⟨(a y).1, (a y).2.1⟩
theorem Alike.has {s s' : St} {t : Tr} (a : Alike s s') (h : Has s t) : Has s' t := fun y hy => by rw [(a y).2.2.1]; exact h y hy
/-- adjustRange: a node over bounded subtrees. -/
theorem adj_bnd {s : St} {l r : Tr} {b : Nat} {x : Spn} (hR : Rep s (some b) (.nd l b r)) (hn : (Tr.nd l b r).ino.Nodup) (hx : (s b).x = some x) (h1 : Bnd s l) (h2 : Bnd s r) : Bnd (setMx (setMn s b x) b x) (.nd l b r) := by
  obtain ⟨_, rl, rr⟩ := hR
  have nb : b ∉ l.ino ∧ b ∉ r.ino := by
    have := List.nodup_append.1 hn
    exact ⟨fun h => this.2.2 b h b (by simp) rfl, (List.nodup_cons.1 this.2.1).1⟩
  have keep : ∀ {t : Tr}, Bnd s t → b ∉ t.ino → Bnd (setMx (setMn s b x) b x) t := fun h hb => h.frame fun y hy => by
    have e : y ≠ b := fun e => hb (by rw [← e]; exact hy)
    rw [setMx_ne e, setMn_ne e]; exact ⟨rfl, rfl, rfl⟩
  have al := (alike_mn s b x).trans (alike_mx (setMn s b x) b x)
  have ehi : ∀ z, hiS (setMx (setMn s b x) b x) z = hiS s z := fun z => by unfold hiS; rw [(al z).2.2.1]
  have elo : ∀ z, loS (setMx (setMn s b x) b x) z = loS s z := fun z => by unfold loS; rw [(al z).2.2.1]
  have emx : (setMx (setMn s b x) b x b).mx = mxOf (setMn s b x) (setMn s b x b) x := setMx_self _ _ _
  have emn : (setMx (setMn s b x) b x b).mn = mnOf s (s b) x := by rw [setMx_mn, setMn_self]
  obtain ⟨g1, g2⟩ := mxOf_ge (setMn s b x) (setMn s b x b) x
  obtain ⟨k1, k2⟩ := mnOf_le s (s b) x
  refine ⟨fun z hz => ?_, keep h1 nb.1, keep h2 nb.2⟩
  rw [ehi, elo, emx, emn]
  have sub : ∀ (t : Tr) (e : Nat), Bnd s t → b ∉ t.ino → Rep s (ch (s b) e) t → z ∈ t.ino → hiS s z ≤ mxOf (setMn s b x) (setMn s b x b) x ∧ mnOf s (s b) x ≤ loS s z := fun t e bt nbt rt hz => by
    obtain ⟨a, ha, _⟩ := rt.root hz
    have hz' := bt.root rt ha hz
    have p1 := g2 e a (by rw [ch_mn]; exact ha)
    have p2 := k2 e a ha
    rw [setMn_mx] at p1
    omega
  simp only [ino, List.mem_append, List.mem_cons] at hz
  rcases hz with hz | rfl | hz
  · exact sub l 0 h1 nb.1 rl hz
  · have : hiS s z = x.hi ∧ loS s z = x.lo := by unfold hiS loS; rw [hx]; exact ⟨rfl, rfl⟩
    rw [this.1, this.2]; exact ⟨g1, k1⟩
  · exact sub r 1 h2 nb.2 rr hz
end Go.Proofs.Ythapmkjmfkmnoaa.E
