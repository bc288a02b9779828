/-
  A heap as a plain function of places: put in at the end and let rise, taken from the top and let sink; what comes out, comes out in order.
-/
import Derived.Tactics
namespace Go.Proofs.YtbbidbjefdaagaaDoor.E

variable {α : Type}
/-- Two blocks next to each other exchanged: from a to m, from m to b. -/
def rot (f : Nat → α) (a m b : Nat) : Nat → α := fun x => if a ≤ x ∧ x < a + (b - m) then f (x + (m - a)) else if a + (b - m) ≤ x ∧ x < b then f (x - (b - m)) else f x
/-- A stretch as a list. -/
def seg (f : Nat → α) (s : Nat) : Nat → List α
  | 0 => []
  | n + 1 => f s :: seg f (s + 1) n
theorem seg_add (f : Nat → α) : ∀ (n m s : Nat), seg f s (n + m) = seg f s n ++ seg f (s + n) m
  | 0, m, s => by simp [seg]
  | n + 1, m, s => by
    rw [show n + 1 + m = (n + m) + 1 by omega]
    simp only [seg, List.cons_append, seg_add f n m (s + 1)]
    rw [show s + 1 + n = s + (n + 1) by omega]
theorem seg_congr {f g : Nat → α} : ∀ (n s t : Nat), (∀ x, x < n → f (s + x) = g (t + x)) → seg f s n = seg g t n
  | 0, _, _, _ => rfl
  | n + 1, s, t, h => by
    simp only [seg]
    rw [show f s = g t by simpa using h 0 (by omega)]
    congr 1
    exact seg_congr n (s + 1) (t + 1) fun x hx => by have := h (x + 1) (by omega); rw [show s + 1 + x = s + (x + 1) by omega, show t + 1 + x = t + (x + 1) by omega]; exact this
theorem seg_length (f : Nat → α) : ∀ (n s : Nat), (seg f s n).length = n
  | 0, _ => rfl
  | n + 1, s => by simp [seg, seg_length f n]
theorem seg_get (f : Nat → α) : ∀ (n s i : Nat), i < n → (seg f s n)[i]? = some (f (s + i))
  | 0, _, _, h => by omega
  | n + 1, s, 0, _ => by simp [seg]
  | n + 1, s, i + 1, h => by
    simp only [seg, List.getElem?_cons_succ]
    rw [seg_get f n (s + 1) i (by omega), show s + 1 + i = s + (i + 1) by omega]
theorem rot_perm (f : Nat → α) {a m b n : Nat} (h1 : a ≤ m) (h2 : m ≤ b) (h3 : b ≤ n) : (seg (rot f a m b) 0 n).Perm (seg f 0 n) := by
  have e1 : n = a + ((m - a) + ((b - m) + (n - b))) := by omega
  have e2 : n = a + ((b - m) + ((m - a) + (n - b))) := by omega
  have l : seg (rot f a m b) 0 n = seg f 0 a ++ (seg f m (b - m) ++ (seg f a (m - a) ++ seg f b (n - b))) := by
    conv => lhs; rw [e2]
    rw [seg_add, seg_add, seg_add]
    congr 1
    · refine seg_congr _ _ _ fun x hx => ?_
      unfold rot; rw [if_neg (by omega), if_neg (by omega)]
    congr 1
    · refine seg_congr _ _ _ fun x hx => ?_
      unfold rot; rw [if_pos (by omega)]; congr 1 <;> omega
    congr 1
    · refine seg_congr _ _ _ fun x hx => ?_
      unfold rot; rw [if_neg (by omega), if_pos (by omega)]; congr 1 <;> omega
    · refine seg_congr _ _ _ fun x hx => ?_
      unfold rot; rw [if_neg (by omega), if_neg (by omega)]; congr 1 <;> omega
  have r : seg f 0 n = seg f 0 a ++ (seg f a (m - a) ++ (seg f m (b - m) ++ seg f b (n - b))) := by
    conv => lhs; rw [e1]
    rw [seg_add, seg_add, seg_add]
    congr 1
    rw [show 0 + a = a by omega, show a + (m - a) = m by omega, show m + (b - m) = b by omega]
  rw [l, r, ← List.append_assoc (seg f m (b - m)), ← List.append_assoc (seg f a (m - a))]
  exact ((List.perm_append_comm).append_right _).append_left _


abbrev It2 := Int × Int
def key (q : It2) : Int := q.1
def upd1 (f : Nat → It2) (i : Nat) (x : It2) : Nat → It2 := fun j => if j = i then x else f j
def swp (f : Nat → It2) (i j : Nat) : Nat → It2 := fun x => if x = i then f j else if x = j then f i else f x
theorem swp_rot (f : Nat → It2) {i j : Nat} (h : i < j) : swp f i j = rot (rot f i j (j + 1)) (i + 1) (i + 2) (j + 1) := by
  funext x
  unfold swp rot
  by_cases h1 : x = i
  · subst h1
    rw [if_pos rfl, if_neg (by omega), if_neg (by omega), if_pos (by omega)]; congr 1; omega
  · rw [if_neg h1]
    by_cases h2 : x = j
    · subst h2
      rw [if_pos rfl]
      by_cases h3 : x = i + 1
      · subst h3
        rw [if_neg (by omega), if_pos (by omega), if_neg (by omega), if_pos (by omega)]; congr 1; omega
      · rw [if_neg (by omega), if_pos (by omega), if_neg (by omega), if_pos (by omega)]; congr 1; omega
    · rw [if_neg h2]
      by_cases h3 : i < x ∧ x < j
      · rw [if_pos (by omega), if_neg (by omega), if_pos (by omega)]; congr 1; omega
      · rw [if_neg (by omega), if_neg (by omega), if_neg (by omega), if_neg (by omega)]
theorem swp_perm (f : Nat → It2) {i j n : Nat} (hi : i < n) (hj : j < n) : (seg (swp f i j) 0 n).Perm (seg f 0 n) := by
  rcases Nat.lt_trichotomy i j with h | h | h
  · rw [swp_rot f h]
    exact (rot_perm _ (by omega) (by omega) (by omega)).trans (rot_perm f (by omega) (by omega) (by omega))
  · subst h
    rw [show swp f i i = f by funext x; unfold swp; split <;> simp_all]
  · rw [show swp f i j = swp f j i by
      funext x; unfold swp
      by_cases h1 : x = i
      · subst h1; rw [if_pos rfl, if_neg (by omega), if_pos rfl]
      · rw [if_neg h1]
        by_cases h2 : x = j
        · rw [if_pos h2, if_pos h2]
        · rw [if_neg h2, if_neg h2, if_neg h1]]
    rw [swp_rot f h]
    exact (rot_perm _ (by omega) (by omega) (by omega)).trans (rot_perm f (by omega) (by omega) (by omega))
theorem seg_set (f : Nat → It2) (x : It2) : ∀ (n s i : Nat), i < n → (seg f s n).set i x = seg (upd1 f (s + i) x) s n
  | 0, _, _, h => by omega
  | n + 1, s, 0, _ => by
    simp only [seg, List.set_cons_zero, Nat.add_zero]
    rw [show upd1 f s x s = x by simp [upd1]]
    congr 1
    exact seg_congr n (s + 1) (s + 1) fun y hy => by unfold upd1; rw [if_neg (by omega)]
  | n + 1, s, i + 1, h => by
    simp only [seg, List.set_cons_succ]
    rw [show upd1 f (s + (i + 1)) x s = f s by unfold upd1; rw [if_neg (by omega)]]
    rw [seg_set f x n (s + 1) i (by omega), show s + 1 + i = s + (i + 1) by omega]

/-! ## Heaps -/
def par (i : Nat) : Nat := (i - 1) / 2
def HeapOn (f : Nat → It2) (n : Nat) : Prop := ∀ i, 0 < i → i < n → key (f (par i)) ≤ key (f i)
def UpI (f : Nat → It2) (n t : Nat) : Prop := (∀ i, 0 < i → i < n → i ≠ t → key (f (par i)) ≤ key (f i)) ∧ (∀ i, 0 < i → i < n → par i = t → 0 < t → key (f (par t)) ≤ key (f i))
def DnI (f : Nat → It2) (n t : Nat) : Prop := (∀ i, 0 < i → i < n → par i ≠ t → key (f (par i)) ≤ key (f i)) ∧ (∀ i, 0 < i → i < n → par i = t → 0 < t → key (f (par t)) ≤ key (f i))
theorem par_lt {i : Nat} (h : 0 < i) : par i < i := by unfold par; omega
theorem swp_at1 (f : Nat → It2) (i j : Nat) : swp f i j i = f j := by unfold swp; rw [if_pos rfl]
theorem swp_at2 (f : Nat → It2) {i j : Nat} (h : i ≠ j) : swp f i j j = f i := by unfold swp; rw [if_neg h.symm, if_pos rfl]
theorem swp_other (f : Nat → It2) {i j x : Nat} (h1 : x ≠ i) (h2 : x ≠ j) : swp f i j x = f x := by unfold swp; rw [if_neg h1, if_neg h2]
theorem up_start {f g : Nat → It2} {n : Nat} (h : HeapOn f n) (hg : ∀ i, i < n → g i = f i) : UpI g (n + 1) n :=
  ⟨fun i h1 h2 h3 => by have := par_lt h1; rw [hg i (by omega), hg (par i) (by omega)]; exact h i h1 (by omega), fun i h1 h2 h3 h4 => by have := par_lt h1; omega⟩
theorem up_step {f : Nat → It2} {n t : Nat} (h : UpI f n t) (h0 : 0 < t) (ht : t < n) (hgt : key (f t) < key (f (par t))) : UpI (swp f t (par t)) n (par t) := by
  obtain ⟨h1, h2⟩ := h
  have hp := par_lt h0
  have hne : t ≠ par t := by omega
  refine ⟨fun i i1 i2 i3 => ?_, fun i i1 i2 i3 i4 => ?_⟩
  · have hpi := par_lt i1
    by_cases e1 : i = t
    · subst e1
      rw [swp_at1, swp_at2 f hne]; omega
    · rw [swp_other f e1 i3]
      by_cases e2 : par i = t
      · rw [e2, swp_at1]; exact h2 i i1 i2 e2 h0
      · by_cases e3 : par i = par t
        · rw [e3, swp_at2 f hne]; have := h1 i i1 i2 e1; rw [e3] at this; omega
        · rw [swp_other f e2 e3]; exact h1 i i1 i2 e1
  · have hpp := par_lt i4
    rw [swp_other f (x := par (par t)) (by omega) (by omega)]
    by_cases e1 : i = t
    · subst e1
      rw [swp_at1]; exact h1 (par i) i4 (by omega) (by omega)
    · rw [swp_other f e1 (by have := par_lt i1; omega)]
      have a := h1 i i1 i2 e1
      rw [i3] at a
      have b := h1 (par t) i4 (by omega) (by omega)
      omega
theorem up_done {f : Nat → It2} {n t : Nat} (h : UpI f n t) (hd : t = 0 ∨ key (f (par t)) ≤ key (f t)) : HeapOn f n := fun i h1 h2 => by
  by_cases e : i = t
  · subst e
    rcases hd with hd | hd
    · omega
    · exact hd
  · exact h.1 i h1 h2 e
theorem dn_start {f g : Nat → It2} {n m : Nat} (h : HeapOn f n) (hm : m ≤ n) (hg : ∀ i, 0 < i → i < m → g i = f i) : DnI g m 0 :=
  ⟨fun i h1 h2 h3 => by have := par_lt h1; rw [hg i h1 h2, hg (par i) (by omega) (by omega)]; exact h i h1 (by omega), fun i h1 h2 h3 h4 => by omega⟩
theorem dn_step {f : Nat → It2} {n t c : Nat} (h : DnI f n t) (hc : par c = t) (c0 : 0 < c) (cn : c < n) (hs : ∀ i, 0 < i → i < n → par i = t → key (f c) ≤ key (f i)) (hlt : key (f c) < key (f t)) : DnI (swp f t c) n c := by
  obtain ⟨h1, h2⟩ := h
  have hp := par_lt c0
  have hne : t ≠ c := by omega
  refine ⟨fun i i1 i2 i3 => ?_, fun i i1 i2 i3 i4 => ?_⟩
  · have hpi := par_lt i1
    by_cases e1 : i = c
    · subst e1
      rw [hc, swp_at1, swp_at2 f hne]; omega
    · by_cases e2 : i = t
      · subst e2
        rw [swp_at1, swp_other f (x := par i) (by omega) i3]
        exact h2 c c0 cn hc i1
      · rw [swp_other f e2 e1]
        by_cases e3 : par i = t
        · rw [e3, swp_at1]; exact hs i i1 i2 e3
        · rw [swp_other f e3 i3]; exact h1 i i1 i2 e3
  · have hpi := par_lt i1
    rw [hc, swp_at1, swp_other f (x := i) (by omega) (by omega)]
    have := h1 i i1 i2 (by omega)
    rw [i3] at this; exact this
theorem dn_done {f : Nat → It2} {n t : Nat} (h : DnI f n t) (hd : ∀ i, 0 < i → i < n → par i = t → key (f t) ≤ key (f i)) : HeapOn f n := fun i h1 h2 => by
  by_cases e : par i = t
  · rw [e]; exact hd i h1 h2 e
  · exact h.1 i h1 h2 e
theorem heap_min {f : Nat → It2} {n : Nat} (h : HeapOn f n) : ∀ i, i < n → key (f 0) ≤ key (f i) := by
  intro i
  induction i using Nat.strongRecOn with
  | ind i ih =>
    intro hi
    by_cases h0 : i = 0
    · subst h0; exact Int.le_refl _
    · have h1 := par_lt (i := i) (by omega)
      have := ih (par i) h1 (by omega)
      have := h i (by omega) hi
      omega
theorem seg_snoc (f : Nat → It2) (n : Nat) : seg f 0 (n + 1) = seg f 0 n ++ [f n] := by
  rw [seg_add]; simp [seg]
theorem mem_seg {f : Nat → It2} {n : Nat} {x : It2} (h : x ∈ seg f 0 n) : ∃ i, i < n ∧ x = f i := by
  obtain ⟨i, hi⟩ := List.getElem?_of_mem h
  have hl : i < n := by have := (List.getElem?_eq_some_iff.1 hi).1; rwa [seg_length] at this
  rw [seg_get _ _ _ _ hl, Nat.zero_add] at hi
  exact ⟨i, hl, (Option.some.inj hi).symm⟩
theorem heap_le {f : Nat → It2} {n : Nat} (h : HeapOn f n) {x : It2} (hx : x ∈ seg f 0 n) : key (f 0) ≤ key x := by
  obtain ⟨i, hi, rfl⟩ := mem_seg hx; exact heap_min h i hi
def Up (l : List It2) : Prop := l.Pairwise fun a b => key a ≤ key b
end Go.Proofs.YtbbidbjefdaagaaDoor.E
