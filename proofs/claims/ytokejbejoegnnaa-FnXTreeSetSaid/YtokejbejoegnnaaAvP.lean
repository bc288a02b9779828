/-
  Balanced trees, plain: nodes know their blocks; both sides are spoken of at once ('nd' d' has its child at side d first); paths; heights; rotations.
-/
import Derived.Test.YtokejbejoegnnaaEng
namespace Go.Proofs.Ytokejbejoegnnaa.E
set_option linter.unusedSimpArgs false
set_option linter.unusedVariables false

abbrev It2 := Int × Int
def kx (q : It2) : Int := q.1
inductive Tr where
  | nil : Tr
  | nd (b : Nat) (bal : Int) (l : Tr) (e : It2) (r : Tr) : Tr
namespace Tr
def bs : Tr → List Nat
  | nil => []
  | nd b _ l _ r => b :: (l.bs ++ r.bs)
def list : Tr → List It2
  | nil => []
  | nd _ _ l e r => l.list ++ e :: r.list
def h : Tr → Int
  | nil => 0
  | nd _ _ l _ r => max l.h r.h + 1
theorem h_pos : ∀ t : Tr, 0 ≤ t.h
  | nil => Int.le_refl _
  | nd _ _ l _ r => by have := h_pos l; simp only [h]; omega
def AVL : Tr → Prop
  | nil => True
  | nd _ bal l _ r => AVL l ∧ AVL r ∧ bal = r.h - l.h ∧ -1 ≤ bal ∧ bal ≤ 1
/-- The child c at side d (true: right), the other one o. -/
def nd' (d : Bool) (b : Nat) (bal : Int) (e : It2) (c o : Tr) : Tr := bif d then nd b bal o e c else nd b bal c e o
end Tr
open Tr
def sg (d : Bool) : Int := bif d then 1 else -1
theorem sg_not (d : Bool) : sg (!d) = - sg d := by cases d <;> rfl
theorem sg_cases (d : Bool) : sg d = 1 ∨ sg d = -1 := by cases d <;> simp [sg]
def lst (d : Bool) (c : List It2) (e : It2) (o : List It2) : List It2 := bif d then o ++ e :: c else c ++ e :: o
theorem list_nd' (d : Bool) (b : Nat) (bal : Int) (e : It2) (c o : Tr) : (nd' d b bal e c o).list = lst d c.list e o.list := by cases d <;> rfl
theorem h_nd' (d : Bool) (b : Nat) (bal : Int) (e : It2) (c o : Tr) : (nd' d b bal e c o).h = max c.h o.h + 1 := by
  cases d
  · rfl
  · show max o.h c.h + 1 = _; rw [Int.max_comm]
theorem avl_nd' (d : Bool) (b : Nat) (bal : Int) (e : It2) (c o : Tr) : (nd' d b bal e c o).AVL ↔ c.AVL ∧ o.AVL ∧ bal = sg d * (c.h - o.h) ∧ -1 ≤ bal ∧ bal ≤ 1 := by
  cases d
  · show c.AVL ∧ o.AVL ∧ bal = o.h - c.h ∧ _ ↔ _
    simp only [sg, cond_false]
    constructor
    · rintro ⟨h1, h2, h3, h4⟩; exact ⟨h1, h2, by omega, h4⟩
    · rintro ⟨h1, h2, h3, h4⟩; exact ⟨h1, h2, by omega, h4⟩
  · show o.AVL ∧ c.AVL ∧ bal = c.h - o.h ∧ _ ↔ _
    simp only [sg, cond_true]
    constructor
    · rintro ⟨h1, h2, h3, h4⟩; exact ⟨h2, h1, by omega, h4⟩
    · rintro ⟨h1, h2, h3, h4⟩; exact ⟨h2, h1, by omega, h4⟩
theorem bs_nd' (d : Bool) (b : Nat) (bal : Int) (e : It2) (c o : Tr) : (nd' d b bal e c o).bs.Perm (b :: (c.bs ++ o.bs)) := by
  cases d
  · exact .refl _
  · exact (List.perm_append_comm).cons _
theorem nd_cases : ∀ (t : Tr) (d : Bool), t = nil ∨ ∃ b bal e c o, t = nd' d b bal e c o
  | nil, _ => .inl rfl
  | nd b bal l e r, false => .inr ⟨b, bal, e, l, r, rfl⟩
  | nd b bal l e r, true => .inr ⟨b, bal, e, r, l, rfl⟩

/-! ## Rotations -/
theorem lst_rot (d : Bool) (e e2 : It2) (m r o : List It2) : lst (!d) (lst d m e o) e2 r = lst d (lst (!d) m e2 r) e o := by
  cases d <;> simp [lst]
/-- What a node becomes whose child at side d is by two higher: the child N there, the other child o. 'True': the height has gone down (as against one more than that of N). -/
inductive RotB (d : Bool) (s : Nat) (e : It2) (o : Tr) : Tr → Tr → Bool → Prop
  | single {n : Nat} {nb : Int} {e2 : It2} {c2 o2 : Tr} : nb = sg d → RotB d s e o (nd' d n nb e2 c2 o2) (nd' (!d) n 0 e2 (nd' d s 0 e o2 o) c2) true
  | double {n nn : Nat} {nb b3 bs bn : Int} {e2 e3 : It2} {x y o2 : Tr} : nb = - sg d → (b3 = 0 → bs = 0 ∧ bn = 0) → (b3 ≠ 0 → b3 = sg d → bs = - sg d ∧ bn = 0) → (b3 ≠ 0 → b3 ≠ sg d → bs = 0 ∧ bn = sg d) →
      RotB d s e o (nd' (!d) n nb e2 (nd' d nn b3 e3 x y) o2) (nd' (!d) nn 0 e3 (nd' d s bs e y o) (nd' (!d) n bn e2 x o2)) true
  | level {n : Nat} {e2 : It2} {c2 o2 : Tr} : RotB d s e o (nd' d n 0 e2 c2 o2) (nd' (!d) n (- sg d) e2 (nd' d s (sg d) e o2 o) c2) false
theorem RotB.ok {d : Bool} {s : Nat} {e : It2} {o N R : Tr} {v : Bool} (h : RotB d s e o N R v) (hN : N.AVL) (ho : o.AVL) (hh : N.h = o.h + 2) : R.AVL ∧ R.h = (if v then N.h else N.h + 1) ∧ R.list = lst d N.list e o.list := by
  have p0 := h_pos o
  cases h with
  | @single n nb e2 c2 o2 hnb =>
    simp only [avl_nd', h_nd', list_nd'] at *
    obtain ⟨a1, a2, a3, a4, a5⟩ := hN
    have p1 := h_pos c2
    have p2 := h_pos o2
    cases d <;> simp only [sg, cond_true, cond_false, Bool.not_true, Bool.not_false, ite_true, ite_false, Bool.false_eq_true, Int.one_mul, Int.neg_mul, Int.neg_neg, reduceIte] at * <;>
    · refine ⟨⟨⟨a2, ho, by omega, by omega, by omega⟩, a1, by omega, by omega, by omega⟩, by omega, ?_⟩
      simp [lst]
  | @double n nn nb b3 bs bn e2 e3 x y o2 hnb h1 h2 h3 =>
    simp only [avl_nd', h_nd', list_nd'] at *
    obtain ⟨⟨c1, c2, c3, c4, c5⟩, a2, a3, a4, a5⟩ := hN
    have p1 := h_pos x
    have p2 := h_pos y
    have p3 := h_pos o2
    have hl : lst (!d) (lst d y.list e o.list) e3 (lst (!d) x.list e2 o2.list) = lst d (lst (!d) (lst d x.list e3 y.list) e2 o2.list) e o.list := by cases d <;> simp [lst]
    have fin : ((b3 = 0 ∧ bs = 0 ∧ bn = 0) ∨ (b3 = sg d ∧ bs = - sg d ∧ bn = 0) ∨ (b3 = - sg d ∧ bs = 0 ∧ bn = sg d)) := by
      by_cases z : b3 = 0
      · exact .inl ⟨z, h1 z⟩
      · by_cases z1 : b3 = sg d
        · exact .inr (.inl ⟨z1, h2 z z1⟩)
        · exact .inr (.inr ⟨by rcases sg_cases d with g | g <;> omega, h3 z z1⟩)
    clear h1 h2 h3
    cases d <;> simp only [sg, cond_true, cond_false, Bool.not_true, Bool.not_false, ite_true, ite_false, Bool.false_eq_true, Int.one_mul, Int.neg_mul, Int.neg_neg, reduceIte] at * <;>
    exact ⟨⟨⟨c2, ho, by omega, by omega, by omega⟩, ⟨c1, a2, by omega, by omega, by omega⟩, by omega, by omega, by omega⟩, by omega, hl⟩
  | @level n e2 c2 o2 =>
    simp only [avl_nd', h_nd', list_nd'] at *
    obtain ⟨a1, a2, a3, a4, a5⟩ := hN
    have p1 := h_pos c2
    have p2 := h_pos o2
    cases d <;> simp only [sg, cond_true, cond_false, Bool.not_true, Bool.not_false, ite_true, ite_false, Bool.false_eq_true, Int.one_mul, Int.neg_mul, Int.neg_neg, reduceIte] at * <;>
    · refine ⟨⟨⟨a2, ho, by omega, by omega, by omega⟩, a1, by omega, by omega, by omega⟩, by omega, ?_⟩
      simp [lst]

/-! ## Paths, the outermost node first -/
structure Fm where
  b : Nat
  bal : Int
  d : Bool
  e : It2
  o : Tr
def plug : List Fm → Tr → Tr
  | [], t => t
  | f :: R, t => nd' f.d f.b f.bal f.e (plug R t) f.o
theorem plug_append : ∀ (A B : List Fm) (t : Tr), plug (A ++ B) t = plug A (plug B t)
  | [], _, _ => rfl
  | f :: A, B, t => by simp only [List.cons_append, plug, plug_append A B t]
def inL : List Fm → List It2
  | [] => []
  | f :: R => (bif f.d then f.o.list ++ [f.e] else []) ++ inL R
def inR : List Fm → List It2
  | [] => []
  | f :: R => inR R ++ (bif f.d then [] else f.e :: f.o.list)
theorem plug_list : ∀ (R : List Fm) (t : Tr), (plug R t).list = inL R ++ t.list ++ inR R
  | [], t => by simp [plug, inL, inR]
  | f :: R, t => by
    simp only [plug, list_nd', plug_list R t, inL, inR]
    cases f.d <;> simp [lst]
theorem inL_append : ∀ (A B : List Fm), inL (A ++ B) = inL A ++ inL B
  | [], _ => rfl
  | f :: A, B => by simp only [List.cons_append, inL, inL_append A B, List.append_assoc]
theorem inR_append : ∀ (A B : List Fm), inR (A ++ B) = inR B ++ inR A
  | [], B => by simp [inR]
  | f :: A, B => by simp only [List.cons_append, inR, inR_append A B, List.append_assoc]
def pbs : List Fm → List Nat
  | [] => []
  | f :: R => f.b :: (f.o.bs ++ pbs R)
theorem pbs_append : ∀ (A B : List Fm), pbs (A ++ B) = pbs A ++ pbs B
  | [], _ => rfl
  | f :: A, B => by simp only [List.cons_append, pbs, pbs_append A B, List.append_assoc]
/-- A tree of the same height in a tree's place. -/
theorem plug_avl : ∀ (R : List Fm) {t t' : Tr}, (plug R t).AVL → t'.AVL → t'.h = t.h → (plug R t').AVL ∧ (plug R t').h = (plug R t).h
  | [], _, _, _, h', e => ⟨h', e⟩
  | f :: R, t, t', h, h', e => by
    simp only [plug, avl_nd', h_nd'] at *
    obtain ⟨a1, a2⟩ := plug_avl R h.1 h' e
    exact ⟨⟨a1, h.2.1, by rw [a2]; exact h.2.2⟩, by rw [a2]⟩
theorem plug_sub : ∀ (R : List Fm) {t : Tr}, (plug R t).AVL → t.AVL
  | [], _, h => h
  | f :: R, t, h => by simp only [plug, avl_nd'] at h; exact plug_sub R h.1
/-- Where all are level, one more below makes each of them one higher. -/
def updF (f : Fm) : Fm := { f with bal := f.bal + sg f.d }
theorem grow_avl : ∀ (Z : List Fm) {t t' : Tr}, (plug Z t).AVL → (∀ f ∈ Z, f.bal = 0) → t'.AVL → t'.h = t.h + 1 → (plug (Z.map updF) t').AVL ∧ (plug (Z.map updF) t').h = (plug Z t).h + 1
  | [], _, _, _, _, h', e => ⟨h', e⟩
  | f :: Z, t, t', h, h0, h', e => by
    have z := h0 f (List.mem_cons_self ..)
    simp only [plug, List.map_cons, avl_nd', h_nd', updF] at *
    obtain ⟨a1, a2⟩ := grow_avl Z h.1 (fun g hg => h0 g (List.mem_cons_of_mem _ hg)) h' e
    obtain ⟨b1, b2, b3, b4, b5⟩ := h
    rw [z] at b3
    generalize f.d = d at *
    cases d <;> simp only [sg, cond_true, cond_false, Bool.not_true, Bool.not_false, ite_true, ite_false, Bool.false_eq_true, Int.one_mul, Int.neg_mul, Int.neg_neg, reduceIte] at * <;>
    exact ⟨⟨a1, b2, by omega, by omega, by omega⟩, by omega⟩
theorem updF_b (Z : List Fm) : (Z.map updF).map (·.b) = Z.map (·.b) := by simp [updF, Function.comp_def]
theorem updF_inL : ∀ Z : List Fm, inL (Z.map updF) = inL Z
  | [] => rfl
  | f :: Z => by simp only [List.map_cons, inL, updF_inL Z, updF]
theorem updF_inR : ∀ Z : List Fm, inR (Z.map updF) = inR Z
  | [] => rfl
  | f :: Z => by simp only [List.map_cons, inR, updF_inR Z, updF]
theorem updF_pbs : ∀ Z : List Fm, pbs (Z.map updF) = pbs Z
  | [] => rfl
  | f :: Z => by simp only [List.map_cons, pbs, updF_pbs Z, updF]
end Go.Proofs.Ytokejbejoegnnaa.E
