/-
  The merging of two sorted runs in place by rotations, as plain functions of places: what a rotation does, and why the halves are apart behind it.
-/
import Derived.Tactics
namespace Go.Proofs.Ytpjjnckgjohaeaa.E

variable {α : Type}
/-- Two blocks next to each other exchanged: from a to m, from m to b. -/
def rot (f : Nat → α) (a m b : Nat) : Nat → α := fun x => if a ≤ x ∧ x < a + (b - m) then f (x + (m - a)) else if a + (b - m) ≤ x ∧ x < b then f (x - (b - m)) else f x
/-- Two blocks of e places exchanged. -/
def sw (f : Nat → α) (s t e : Nat) : Nat → α := fun x => if s ≤ x ∧ x < s + e then f (x - s + t) else if t ≤ x ∧ x < t + e then f (x - t + s) else f x

theorem sw_zero (f : Nat → α) (s t : Nat) : sw f s t 0 = f := by
  funext x; unfold sw; rw [if_neg (by omega), if_neg (by omega)]
theorem rot_none1 (f : Nat → α) {a b : Nat} : rot f a a b = f := by
  funext x; unfold rot
  split
  · congr 1 <;> omega
  · rw [if_neg (by omega)]
theorem rot_none2 (f : Nat → α) {a b : Nat} : rot f a b b = f := by
  funext x; unfold rot
  rw [if_neg (by omega)]
  split
  · congr 1 <;> omega
  · rfl
theorem rot_eq (f : Nat → α) {p i : Nat} (h : i ≤ p) : rot f (p - i) p (p + i) = sw f (p - i) p i := by
  funext x; unfold rot sw
  by_cases h1 : p - i ≤ x ∧ x < p
  · rw [if_pos (by omega), if_pos (by omega)]; congr 1 <;> omega
  · by_cases h2 : p ≤ x ∧ x < p + i
    · rw [if_neg (by omega), if_pos (by omega), if_neg (by omega), if_pos (by omega)]; congr 1 <;> omega
    · rw [if_neg (by omega), if_neg (by omega), if_neg (by omega), if_neg (by omega)]
theorem rot_more (f : Nat → α) {p i j : Nat} (h : i ≤ p) (hj : j < i) : rot f (p - i) p (p + j) = rot (sw f (p - i) p j) (p - (i - j)) p (p + j) := by
  funext x; unfold rot sw
  by_cases h1 : x < p - i
  · rw [if_neg (by omega), if_neg (by omega), if_neg (by omega), if_neg (by omega), if_neg (by omega), if_neg (by omega)]
  by_cases h2 : p + j ≤ x
  · rw [if_neg (by omega), if_neg (by omega), if_neg (by omega), if_neg (by omega), if_neg (by omega), if_neg (by omega)]
  by_cases h3 : x < p - i + j
  · rw [if_pos (by omega), if_neg (by omega), if_neg (by omega), if_pos (by omega)]; congr 1 <;> omega
  by_cases h4 : x < p - (i - j) + j
  · rw [if_neg (by omega), if_pos (by omega), if_pos (by omega), if_neg (by omega), if_pos (by omega)]; congr 1 <;> omega
  · rw [if_neg (by omega), if_pos (by omega), if_neg (by omega), if_pos (by omega)]
    by_cases h5 : x - j < p - i + j
    · rw [if_neg (by omega), if_neg (by omega)]
    · rw [if_neg (by omega), if_neg (by omega)]
theorem rot_less (f : Nat → α) {p i j : Nat} (h : i ≤ p) (hj : i < j) : rot f (p - i) p (p + j) = rot (sw f (p - i) (p + j - i) i) (p - i) p (p + (j - i)) := by
  funext x; unfold rot sw
  by_cases h1 : x < p - i
  · rw [if_neg (by omega), if_neg (by omega), if_neg (by omega), if_neg (by omega), if_neg (by omega), if_neg (by omega)]
  by_cases h2 : p + j ≤ x
  · rw [if_neg (by omega), if_neg (by omega), if_neg (by omega), if_neg (by omega), if_neg (by omega), if_neg (by omega)]
  by_cases h3 : p + (j - i) ≤ x
  · rw [if_neg (by omega), if_pos (by omega), if_neg (by omega), if_neg (by omega), if_neg (by omega), if_pos (by omega)]; congr 1 <;> omega
  by_cases h4 : x < p - i + (j - i)
  · rw [if_pos (by omega), if_pos (by omega), if_neg (by omega), if_neg (by omega)]
  · rw [if_pos (by omega), if_neg (by omega), if_pos (by omega), if_pos (by omega)]; congr 1 <;> omega

/-- A stretch as a list. -/
def seg (f : Nat → α) (s : Nat) : Nat → List α
  | 0 => []
  | n + 1 => f s :: seg f (s + 1) n
theorem seg_add (f : Nat → α) : ∀ (n m s : Nat), seg f s (n + m) = seg f s n ++ seg f (s + n) m
  | 0, m, s => by simp [seg]
  | n + 1, m, s => by
    rw [show n + 1 + m = (n + m) + 1 by omega]
    simp only [seg, List.cons_append, seg_add f n m (s + 1)]
    rw [show s + 1 + n = s + (n + 1) by omega]
theorem seg_congr {f g : Nat → α} : ∀ (n s t : Nat), (∀ x, x < n → f (s + x) = g (t + x)) → seg f s n = seg g t n
  | 0, _, _, _ => rfl
  | n + 1, s, t, h => by
    simp only [seg]
    rw [show f s = g t by simpa using h 0 (by omega)]
    congr 1
    exact seg_congr n (s + 1) (t + 1) fun x hx => by have := h (x + 1) (by omega); rw [show s + 1 + x = s + (x + 1) by omega, show t + 1 + x = t + (x + 1) by omega]; exact this
theorem seg_length (f : Nat → α) : ∀ (n s : Nat), (seg f s n).length = n
  | 0, _ => rfl
  | n + 1, s => by simp [seg, seg_length f n]
theorem seg_get (f : Nat → α) : ∀ (n s i : Nat), i < n → (seg f s n)[i]? = some (f (s + i))
  | 0, _, _, h => by omega
  | n + 1, s, 0, _ => by simp [seg]
  | n + 1, s, i + 1, h => by
    simp only [seg, List.getElem?_cons_succ]
    rw [seg_get f n (s + 1) i (by omega), show s + 1 + i = s + (i + 1) by omega]
theorem rot_perm (f : Nat → α) {a m b n : Nat} (h1 : a ≤ m) (h2 : m ≤ b) (h3 : b ≤ n) : (seg (rot f a m b) 0 n).Perm (seg f 0 n) := by
  have e1 : n = a + ((m - a) + ((b - m) + (n - b))) := by omega
  have e2 : n = a + ((b - m) + ((m - a) + (n - b))) := by omega
  have l : seg (rot f a m b) 0 n = seg f 0 a ++ (seg f m (b - m) ++ (seg f a (m - a) ++ seg f b (n - b))) := by
    conv => lhs; rw [e2]
    rw [seg_add, seg_add, seg_add]
    congr 1
    · refine seg_congr _ _ _ fun x hx => ?_
      unfold rot; rw [if_neg (by omega), if_neg (by omega)]
    congr 1
    · refine seg_congr _ _ _ fun x hx => ?_
      unfold rot; rw [if_pos (by omega)]; congr 1 <;> omega
    congr 1
    · refine seg_congr _ _ _ fun x hx => ?_
      unfold rot; rw [if_neg (by omega), if_pos (by omega)]; congr 1 <;> omega
    · refine seg_congr _ _ _ fun x hx => ?_
      unfold rot; rw [if_neg (by omega), if_neg (by omega)]; congr 1 <;> omega
  have r : seg f 0 n = seg f 0 a ++ (seg f a (m - a) ++ (seg f m (b - m) ++ seg f b (n - b))) := by
    conv => lhs; rw [e1]
    rw [seg_add, seg_add, seg_add]
    congr 1
    rw [show 0 + a = a by omega, show a + (m - a) = m by omega, show m + (b - m) = b by omega]
  rw [l, r, ← List.append_assoc (seg f m (b - m)), ← List.append_assoc (seg f a (m - a))]
  exact ((List.perm_append_comm).append_right _).append_left _

/-- Ascending from a up to b, by the keys. -/
def Asc (k : α → Int) (f : Nat → α) (a b : Nat) : Prop := ∀ x y, a ≤ x → x ≤ y → y < b → k (f x) ≤ k (f y)
/-- What a merge of the stretch from a to b leaves. -/
structure Mix (f g : Nat → α) (a b n : Nat) : Prop where
  out : ∀ x, x < a ∨ b ≤ x → g x = f x
  inn : ∀ x, a ≤ x → x < b → ∃ y, a ≤ y ∧ y < b ∧ g x = f y
  perm : (seg g 0 n).Perm (seg f 0 n)
theorem Mix.refl (f : Nat → α) (a b n : Nat) : Mix f f a b n := ⟨fun _ _ => rfl, fun x h1 h2 => ⟨x, h1, h2, rfl⟩, List.Perm.refl _⟩
theorem Mix.trans {f g h : Nat → α} {a b n : Nat} (p : Mix f g a b n) (q : Mix g h a b n) : Mix f h a b n :=
  ⟨fun x hx => (q.out x hx).trans (p.out x hx), fun x h1 h2 => by obtain ⟨y, y1, y2, e⟩ := q.inn x h1 h2; obtain ⟨z, z1, z2, e'⟩ := p.inn y y1 y2; exact ⟨z, z1, z2, e.trans e'⟩, q.perm.trans p.perm⟩
theorem Mix.wide {f g : Nat → α} {a b a' b' n : Nat} (p : Mix f g a b n) (h1 : a' ≤ a) (h2 : b ≤ b') : Mix f g a' b' n :=
  ⟨fun x hx => p.out x (by omega), fun x y1 y2 => by
    by_cases h : a ≤ x ∧ x < b
    · obtain ⟨y, e1, e2, e⟩ := p.inn x h.1 h.2; exact ⟨y, by omega, by omega, e⟩
    · exact ⟨x, y1, y2, p.out x (by omega)⟩, p.perm⟩
theorem rot_mix (f : Nat → α) {a m b n : Nat} (h1 : a ≤ m) (h2 : m ≤ b) (h3 : b ≤ n) : Mix f (rot f a m b) a b n := by
  refine ⟨fun x hx => ?_, fun x y1 y2 => ?_, rot_perm f h1 h2 h3⟩
  · unfold rot; rw [if_neg (by omega), if_neg (by omega)]
  · unfold rot
    by_cases h : x < a + (b - m)
    · rw [if_pos (by omega)]; exact ⟨_, by omega, by omega, rfl⟩
    · rw [if_neg (by omega), if_pos (by omega)]; exact ⟨_, by omega, by omega, rfl⟩

variable {k : α → Int}
theorem Asc.of_out {f g : Nat → α} {a b c d n : Nat} (h : Asc k f a b) (p : Mix f g c d n) (hd : b ≤ c ∨ d ≤ a) : Asc k g a b := fun x y h1 h2 h3 => by
  rw [p.out x (by omega), p.out y (by omega)]; exact h x y h1 h2 h3

/-- Where the search ended, the rotation parts the halves. -/
theorem parts {f : Nat → α} {a m b s : Nat} (h1 : a < m) (A : Asc k f a m) (B : Asc k f m b) {c : Nat} (hc : c = (a + b) / 2)
    {lo hi : Nat} (hlo : lo = if m > c then c + m - b else a) (hhi : hi = if m > c then c else m) (hs1 : lo ≤ s) (hs2 : s ≤ hi)
    (L : lo < s → k (f (s - 1)) ≤ k (f (c + m - s))) (R : s < hi → k (f (c + m - 1 - s)) < k (f s)) :
    a ≤ s ∧ s ≤ m ∧ m ≤ c + m - s ∧ c + m - s ≤ b ∧ s ≤ c ∧ c ≤ c + m - s ∧
    Asc k (rot f s m (c + m - s)) a s ∧ Asc k (rot f s m (c + m - s)) s c ∧ Asc k (rot f s m (c + m - s)) c (c + m - s) ∧ Asc k (rot f s m (c + m - s)) (c + m - s) b ∧
    ∀ x y, a ≤ x → x < c → c ≤ y → y < b → k (rot f s m (c + m - s) x) ≤ k (rot f s m (c + m - s) y) := by
  have g1 : a ≤ s ∧ s ≤ m ∧ m ≤ c + m - s ∧ c + m - s ≤ b ∧ s ≤ c ∧ c ≤ c + m - s := by
    split at hlo <;> rename_i hmc
    · rw [if_pos hmc] at hhi; omega
    · rw [if_neg hmc] at hhi; omega
  obtain ⟨g1, g2, g3, g4, g5, g6⟩ := g1
  have r1 : ∀ x, x < s → rot f s m (c + m - s) x = f x := fun x hx => by unfold rot; rw [if_neg (by omega), if_neg (by omega)]
  have r2 : ∀ x, s ≤ x → x < c → rot f s m (c + m - s) x = f (x + (m - s)) := fun x hx hx2 => by unfold rot; rw [if_pos (by omega)]
  have r3 : ∀ x, c ≤ x → x < c + m - s → rot f s m (c + m - s) x = f (x - (c - s)) := fun x hx hx2 => by unfold rot; rw [if_neg (by omega), if_pos (by omega)]; congr 1 <;> omega
  have r4 : ∀ x, c + m - s ≤ x → rot f s m (c + m - s) x = f x := fun x hx => by unfold rot; rw [if_neg (by omega), if_neg (by omega)]
  refine ⟨g1, g2, g3, g4, g5, g6, fun x y e1 e2 e3 => ?_, fun x y e1 e2 e3 => ?_, fun x y e1 e2 e3 => ?_, fun x y e1 e2 e3 => ?_, fun x y e1 e2 e3 e4 => ?_⟩
  · rw [r1 x (by omega), r1 y e3]; exact A x y e1 e2 (by omega)
  · rw [r2 x e1 (by omega), r2 y (by omega) e3]; exact B _ _ (by omega) (by omega) (by omega)
  · rw [r3 x e1 (by omega), r3 y (by omega) e3]; exact A _ _ (by omega) (by omega) (by omega)
  · rw [r4 x e1, r4 y (by omega)]; exact B x y (by omega) e2 e3
  · -- a place on the left, a place on the right
    by_cases hx : x < s
    · rw [r1 x hx]
      by_cases hy : y < c + m - s
      · rw [r3 y e3 hy]; exact A _ _ e1 (by omega) (by omega)
      · rw [r4 y (by omega)]
        have hl : lo < s := by
          split at hlo <;> rename_i hmc
          · omega
          · omega
        have q1 := A x (s - 1) e1 (by omega) (by omega)
        have q2 := B (c + m - s) y (by omega) (by omega) e4
        have := L hl
        omega
    · rw [r2 x (by omega) e2]
      by_cases hy : y < c + m - s
      · rw [r3 y e3 hy]
        have hr : s < hi := by
          split at hlo <;> rename_i hmc
          · rw [if_pos hmc] at hhi; omega
          · rw [if_neg hmc] at hhi; omega
        have q1 := B (x + (m - s)) (c + m - 1 - s) (by omega) (by omega) (by omega)
        have q2 := A s (y - (c - s)) (by omega) (by omega) (by omega)
        have := R hr
        omega
      · rw [r4 y (by omega)]; exact B _ _ (by omega) (by omega) e4
/-- The halves sorted, apart from each other: all is sorted. -/
theorem joined {f g : Nat → α} {a c b : Nat} (A : Asc k g a c) (B : Asc k g c b) (hL : ∀ x, a ≤ x → x < c → ∃ y, a ≤ y ∧ y < c ∧ g x = f y) (hR : ∀ x, c ≤ x → x < b → ∃ y, c ≤ y ∧ y < b ∧ g x = f y)
    (h : ∀ x y, a ≤ x → x < c → c ≤ y → y < b → k (f x) ≤ k (f y)) : Asc k g a b := fun x y h1 h2 h3 => by
  by_cases hx : c ≤ x
  · exact B x y hx h2 h3
  by_cases hy : y < c
  · exact A x y h1 h2 hy
  obtain ⟨x', e1, e2, e⟩ := hL x h1 (by omega)
  obtain ⟨y', e3, e4, e'⟩ := hR y (by omega) h3
  rw [e, e']; exact h x' y' e1 e2 e3 e4
end Go.Proofs.Ytpjjnckgjohaeaa.E
