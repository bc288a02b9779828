/-
  Range trees: what an addition leaves, below a node; from a child to its node.
-/
import Derived.Test.YtfokodpnoiilbaaR4
namespace Go.Proofs.Ytfokodpnoiilbaa.E
open Go
set_option linter.unusedSimpArgs false
set_option linter.unusedVariables false
set_option maxRecDepth 100000
set_option maxHeartbeats 8000000

def kyD (e : Dtn) : Nat → Nat → List Int
  | 0, _ => []
  | m + 1, i => plI e.pos i :: kyD e m (i + 1)
def lvl (m : Nat) (s : RSt) (l : List Nat) : List (Int × ON (Option Dtn) m) := l.map fun c => ((s c).v, absN m s c)
def rcl (m : Nat) (s : RSt) (l : List Nat) : List Nat := l.flatMap fun c => c :: rch m s c
theorem rcl_append (m : Nat) (s : RSt) (a b : List Nat) : rcl m s (a ++ b) = rcl m s a ++ rcl m s b := List.flatMap_append
theorem rcl_cons (m : Nat) (s : RSt) (c : Nat) (b : List Nat) : rcl m s (c :: b) = (c :: rch m s c) ++ rcl m s b := List.flatMap_cons
theorem lvl_append (m : Nat) (s : RSt) (a b : List Nat) : lvl m s (a ++ b) = lvl m s a ++ lvl m s b := List.map_append
theorem lvl_cons (m : Nat) (s : RSt) (c : Nat) (b : List Nat) : lvl m s (c :: b) = ((s c).v, absN m s c) :: lvl m s b := rfl
theorem lvl_congr {m : Nat} {s s' : RSt} {l : List Nat} (h : ∀ y ∈ rcl m s l, s' y = s y) : lvl m s' l = lvl m s l ∧ rcl m s' l = rcl m s l := by
  induction l with
  | nil => exact ⟨rfl, rfl⟩
  | cons c l ih =>
    rw [rcl_cons] at h
    obtain ⟨i1, i2⟩ := ih fun y hy => h y (List.mem_append_right _ hy)
    have hc := h c (List.mem_append_left _ List.mem_cons_self)
    obtain ⟨j1, j2⟩ := absN_congr m hc fun y hy => h y (List.mem_append_left _ (List.mem_cons_of_mem _ hy))
    rw [lvl_cons, lvl_cons, rcl_cons, rcl_cons, i1, i2, hc, j1, j2]
    exact ⟨rfl, rfl⟩
theorem rcl0 (s : RSt) : ∀ l : List Nat, rcl 0 s l = l
  | [] => rfl
  | c :: l => by rw [rcl_cons, rcl0 s l]; rfl
theorem mem_rcl {m : Nat} {s : RSt} {l : List Nat} {c : Nat} (h : c ∈ l) : c ∈ rcl m s l := List.mem_flatMap.2 ⟨c, h, List.mem_cons_self⟩
theorem rch_D : ∀ (m : Nat) {w : World} {base tb num dm pl pc : Nat} {pp : Option Addr} {D : List Nat} {s : RSt} {x : Nat}, RM w base tb num dm pp pl pc D s → (x = tb ∨ x ∈ D) → ∀ y ∈ rch m s x, y ∈ D
  | 0, _, _, _, _, _, _, _, _, _, _, _, _, _, y, hy => by cases hy
  | m + 1, _, _, _, _, _, _, _, _, _, _, _, h, hx, y, hy => by
    obtain ⟨c, hc, hy⟩ := List.mem_flatMap.1 hy
    have hcD := h.kd _ hx c hc
    rcases List.mem_cons.1 hy with rfl | hy
    · exact hcD
    · exact rch_D m h (.inr hcD) y hy
theorem nodup_mid {x : Nat} {P M Q M' : List Nat} (h : (x :: (P ++ (M ++ Q))).Nodup) (h' : M'.Nodup) (hm : ∀ y ∈ M', y ∈ M ∨ y ∉ x :: (P ++ (M ++ Q))) : (x :: (P ++ (M' ++ Q))).Nodup := by
  simp only [List.nodup_cons, List.nodup_append, List.mem_append, List.mem_cons, not_or] at h hm ⊢
  obtain ⟨⟨a1, a2, a3⟩, b1, ⟨c1, c2, c3⟩, d⟩ := h
  refine ⟨⟨a1, fun hx => ?_, a3⟩, b1, ⟨h', c2, fun y hy z hz => ?_⟩, fun y hy z hz => ?_⟩
  · rcases hm x hx with h | h
    · exact a2 h
    · exact h.1 rfl
  · rcases hm y hy with h | h
    · exact c3 y h z hz
    · exact fun e => h.2.2.2 (e ▸ hz)
  · rcases hz with hz | hz
    · rcases hm z hz with h | h
      · exact d y hy z (.inl h)
      · exact fun e => h.2.1 (e ▸ hy)
    · exact d y hy z (.inr hz)
theorem child {m x c : Nat} {A B : List Nat} {s s' : RSt} (hk : (s x).kids = A ++ c :: B) (nd : (x :: rch (m + 1) s x).Nodup)
    (out : ∀ y ∈ x :: rch (m + 1) s x, y ≠ c → y ∉ rch m s c → s' y = s y) (hv : (s' c).v = (s c).v) (nd' : (c :: rch m s' c).Nodup) (fresh : ∀ y ∈ rch m s' c, y ∈ rch m s c ∨ y ∉ x :: rch (m + 1) s x) :
    s' x = s x ∧ absN (m + 1) s' x = lvl m s A ++ ((s c).v, absN m s' c) :: lvl m s B ∧ (x :: rch (m + 1) s' x).Nodup ∧ (∀ y ∈ rch (m + 1) s' x, y ∈ rch (m + 1) s x ∨ y ∈ rch m s' c) := by
  have hr : rch (m + 1) s x = rcl m s A ++ ((c :: rch m s c) ++ rcl m s B) := by
    show rcl m s (s x).kids = _
    rw [hk, rcl_append, rcl_cons]
  rw [hr] at nd out fresh
  have nd0 := nd
  simp only [List.nodup_cons, List.nodup_append, List.mem_append, List.mem_cons, not_or] at nd0
  obtain ⟨⟨a1, a2, a3⟩, b1, ⟨c1, c2, c3⟩, d⟩ := nd0
  have e1 : s' x = s x := out x List.mem_cons_self (fun e => a2.1 e) a2.2
  obtain ⟨eA, eA'⟩ := lvl_congr (m := m) (s := s) (s' := s') (l := A) fun y hy => out y (List.mem_cons_of_mem _ (List.mem_append_left _ hy)) (fun e => d y hy c (.inl (.inl rfl)) e) fun h => d y hy y (.inl (.inr h)) rfl
  obtain ⟨eB, eB'⟩ := lvl_congr (m := m) (s := s) (s' := s') (l := B) fun y hy => out y (List.mem_cons_of_mem _ (List.mem_append_right _ (List.mem_append_right _ hy))) (fun e => c3 c (.inl rfl) y hy e.symm) fun h => c3 y (.inr h) y hy rfl
  have hr' : rch (m + 1) s' x = rcl m s A ++ ((c :: rch m s' c) ++ rcl m s B) := by
    show rcl m s' (s' x).kids = _
    rw [e1, hk, rcl_append, rcl_cons, eA', eB']
  refine ⟨e1, ?_, ?_, fun y hy => ?_⟩
  · show lvl m s' (s' x).kids = _
    rw [e1, hk, lvl_append, lvl_cons, eA, eB, hv]
  · rw [hr']
    refine nodup_mid nd nd' fun y hy => ?_
    rcases List.mem_cons.1 hy with rfl | hy
    · exact .inl List.mem_cons_self
    · exact (fresh y hy).imp (List.mem_cons_of_mem _) id
  · rw [hr'] at hy
    rw [hr]
    rcases List.mem_append.1 hy with hy | hy
    · exact .inl (List.mem_append_left _ hy)
    · rcases List.mem_append.1 hy with hy | hy
      · rcases List.mem_cons.1 hy with rfl | hy
        · exact .inl (List.mem_append_right _ (List.mem_append_left _ List.mem_cons_self))
        · exact .inr hy
      · exact .inl (List.mem_append_right _ (List.mem_append_right _ hy))
structure RIn (tb B m x : Nat) (D : List Nat) (s : RSt) : Prop where
  hx : x = tb ∨ x ∈ D
  nd : (x :: rch m s x).Nodup
  sr : SrtN m (absN m s x)
  b1 : ∀ b, (b = tb ∨ b ∈ D) → (s b).kids.length ≤ B + 1
  b2 : ∀ b ∈ x :: rch m s x, (s b).kids.length ≤ B
structure RPost (tb B m i : Nat) (e : Dtn) (x : Nat) (D : List Nat) (s : RSt) (D' : List Nat) (s' : RSt) (r : Option Nat) : Prop where
  sub : ∀ b ∈ D, b ∈ D'
  out : ∀ y, (y = tb ∨ y ∈ D) → y ≠ x → y ∉ rch m s x → s' y = s y
  v : (s' x).v = (s x).v
  en : (s' x).e = (s x).e
  ab : absN m s' x = addON m (absN m s x) (kyD e m i) (some e)
  nd : (x :: rch m s' x).Nodup
  rc : ∀ y ∈ rch m s' x, y ∈ rch m s x ∨ (y ∉ D ∧ y ≠ tb)
  b1 : ∀ b, (b = tb ∨ b ∈ D') → (s' b).kids.length ≤ B + 1
  r1 : r = none → getON m (absN m s x) (kyD e m i) = none
  r2 : ∀ o, r = some o → o ∈ D' ∧ getON m (absN m s x) (kyD e m i) = some (s' o).e
theorem lvl_fst (m : Nat) (s : RSt) (l : List Nat) : (lvl m s l).map Prod.fst = l.map fun c => (s c).v := by
  unfold lvl; rw [List.map_map]; rfl
theorem sr_keys {m x : Nat} {s : RSt} (h : SrtN (m + 1) (absN (m + 1) s x)) : (keysR s x).Pairwise (· < ·) := by
  have h1 : (lvl m s (s x).kids).Pairwise (fun p q => p.1 < q.1) := h.1
  unfold keysR
  rw [← lvl_fst m, List.pairwise_map]
  exact h1
section
variable {w : World} {base tb num dm pl pc B m i x c : Nat} {pp : Option Addr} {D D' : List Nat} {s s' : RSt} {e : Dtn} {r : Option Nat}
/-- The child was there: what is asked of it. -/
theorem RIn.found (h : RM w base tb num dm pp pl pc D s) (hi : RIn tb B (m + 1) x D s) (hc : c ∈ (s x).kids) : RIn tb B m c D s := by
  have hcD := h.kd x hi.hx c hc
  have hsub : ∀ y ∈ c :: rch m s c, y ∈ rch (m + 1) s x := fun y hy => List.mem_flatMap.2 ⟨c, hc, hy⟩
  refine ⟨.inr hcD, ?_, ?_, hi.b1, fun b hb => hi.b2 b (List.mem_cons_of_mem _ (hsub b hb))⟩
  · have h1 := (List.nodup_cons.1 hi.nd).2
    obtain ⟨A, B', hk⟩ := List.append_of_mem hc
    have h1 : (rcl m s (s x).kids).Nodup := h1
    rw [hk, rcl_append, rcl_cons] at h1
    exact (List.nodup_append.1 (List.nodup_append.1 h1).2.1).1
  · exact hi.sr.2 ((s c).v, absN m s c) (List.mem_map.2 ⟨c, hc, rfl⟩)
/-- From the child, which was there, to its node. -/
theorem RPost.found (h : RM w base tb num dm pp pl pc D s) (hi : RIn tb B (m + 1) x D s) (hj : (s x).kids[lbd (plI e.pos i) (keysR s x)]? = some c) (hv : (s c).v = plI e.pos i) (p : RPost tb B m (i + 1) e c D s D' s' r) :
    RPost tb B (m + 1) i e x D s D' s' r := by
  obtain ⟨hjl, hjc⟩ := List.getElem?_eq_some_iff.1 hj
  generalize hjj : lbd (plI e.pos i) (keysR s x) = j at *
  have hc : c ∈ (s x).kids := List.mem_of_getElem? hj
  have hk : (s x).kids = (s x).kids.take j ++ c :: (s x).kids.drop (j + 1) := by
    rw [← hjc, List.getElem_cons_drop, List.take_append_drop]
  have hD : ∀ y ∈ x :: rch (m + 1) s x, y = tb ∨ y ∈ D := fun y hy => by
    rcases List.mem_cons.1 hy with rfl | hy
    · exact hi.hx
    · exact .inr (rch_D _ h hi.hx y hy)
  obtain ⟨c1, c2, c3, c4⟩ := child (s' := s') hk hi.nd (fun y hy h1 h2 => p.out y (hD y hy) h1 h2) p.v p.nd fun y hy => (p.rc y hy).imp id fun h hy => (hD y hy).elim h.2 h.1
  have hL : (lvl m s (s x).kids)[j]? = some (plI e.pos i, absN m s c) := by
    unfold lvl; rw [List.getElem?_map, hj, ← hv]; rfl
  have hs : (lvl m s (s x).kids).Pairwise (fun p q => p.1 < q.1) := hi.sr.1
  have hlb : lbd (plI e.pos i) ((lvl m s (s x).kids).map Prod.fst) = j := by rw [lvl_fst]; exact hjj
  have key : ∀ (f : ON (Option Dtn) m → ON (Option Dtn) m) x0, lkp (plI e.pos i) (lvl m s (s x).kids) = some (absN m s c) ∧ insL (plI e.pos i) f x0 (lvl m s (s x).kids) = (lvl m s (s x).kids).set j (plI e.pos i, f (absN m s c)) := fun f x0 => by
    have := (ins_at (f := f) (x0 := x0) hs (v := plI e.pos i)).1 (absN m s c) (by rw [hlb]; exact hL)
    rw [hlb] at this; exact this
  have hg : getON (m + 1) (absN (m + 1) s x) (kyD e (m + 1) i) = getON m (absN m s c) (kyD e m (i + 1)) := by
    show (lkp (plI e.pos i) (lvl m s (s x).kids)).bind _ = _
    rw [(key id (newON m [] (some e))).1]; rfl
  refine ⟨p.sub, fun y hy h1 h2 => p.out y hy (fun e => h2 (e ▸ List.mem_flatMap.2 ⟨c, hc, List.mem_cons_self⟩)) fun hy' => h2 (List.mem_flatMap.2 ⟨c, hc, List.mem_cons_of_mem _ hy'⟩), by rw [c1], by rw [c1], ?_, c3, fun y hy => ?_, p.b1, fun hr => by rw [hg]; exact p.r1 hr, fun o ho => by rw [hg]; exact p.r2 o ho⟩
  · rw [c2, p.ab, hv]
    show _ = insL (plI e.pos i) (fun x => addON m x (kyD e m (i + 1)) (some e)) (newON m (kyD e m (i + 1)) (some e)) (lvl m s (s x).kids)
    rw [(key _ _).2]
    conv => rhs; rw [hk]
    rw [lvl_append, lvl_cons, List.set_append_right _ _ (by unfold lvl; simp; omega)]
    have : j - (lvl m s ((s x).kids.take j)).length = 0 := by unfold lvl; simp; omega
    rw [this]; rfl
  · rcases c4 y hy with h1 | h1
    · exact .inl h1
    · rcases p.rc y h1 with h2 | h2
      · exact .inl (List.mem_flatMap.2 ⟨c, hc, List.mem_cons_of_mem _ h2⟩)
      · exact .inr h2
end
end Go.Proofs.Ytfokodpnoiilbaa.E
