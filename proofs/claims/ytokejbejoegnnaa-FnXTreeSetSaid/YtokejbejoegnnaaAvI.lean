/-
  Paths in memory; what an insertion finds and leaves, plain.
-/
import Derived.Test.YtokejbejoegnnaaAvF
namespace Go.Proofs.Ytokejbejoegnnaa.E
open Go Tr
set_option linter.unusedSimpArgs false
set_option linter.unusedVariables false
set_option maxRecDepth 100000
set_option maxHeartbeats 2000000

def hd : List Fm → Option Addr → Option Addr
  | [], p => p
  | f :: _, _ => some ⟨f.b, 0, none⟩
def PM (w : World) : List Fm → Option Addr → Prop
  | [], _ => True
  | f :: R, p => Blk w f.b 119 (ncl f.d f.bal f.e (hd R p) f.o.ptr) ∧ TrM w f.o ∧ PM w R p
theorem plug_ptr : ∀ (R : List Fm) (t : Tr), (plug R t).ptr = hd R t.ptr
  | [], _ => rfl
  | f :: R, t => by simp only [plug, ptr_nd', hd]
theorem hd_append : ∀ (A B : List Fm) (p : Option Addr), hd (A ++ B) p = hd A (hd B p)
  | [], _, _ => rfl
  | f :: A, B, p => rfl
theorem pm_append {w : World} : ∀ (A B : List Fm) (p : Option Addr), PM w (A ++ B) p ↔ PM w A (hd B p) ∧ PM w B p
  | [], B, p => by simp [PM]
  | f :: A, B, p => by simp only [List.cons_append, PM, pm_append A B p, hd_append, and_assoc]
theorem trm_plug {w : World} : ∀ (R : List Fm) (t : Tr), TrM w (plug R t) ↔ PM w R t.ptr ∧ TrM w t
  | [], t => by simp [plug, PM]
  | f :: R, t => by
    simp only [plug, trm_nd', PM, trm_plug R t, plug_ptr]
    constructor
    · rintro ⟨a, ⟨b, c⟩, d⟩; exact ⟨⟨a, d, b⟩, c⟩
    · rintro ⟨⟨a, d, b⟩, c⟩; exact ⟨a, ⟨b, c⟩, d⟩
theorem PM.fr {S : Nat → Prop} {w w' : World} (f : Fr S w w') : ∀ {R : List Fm} {p : Option Addr}, PM w R p → (∀ b ∈ pbs R, ¬ S b) → PM w' R p
  | [], _, _, _ => trivial
  | g :: R, p, ⟨h1, h2, h3⟩, hS => by
    simp only [pbs, List.mem_cons, List.mem_append] at hS
    exact ⟨h1.fr f (hS _ (.inl rfl)), h2.fr f fun x hx => hS x (.inr (.inl hx)), PM.fr f h3 fun x hx => hS x (.inr (.inr hx))⟩
theorem PM.lt {w : World} : ∀ {R : List Fm} {p : Option Addr}, PM w R p → ∀ b ∈ pbs R, b < w.heap.size
  | [], _, _, b, h => by cases h
  | g :: R, p, ⟨h1, h2, h3⟩, x, hx => by
    simp only [pbs, List.mem_cons, List.mem_append] at hx
    rcases hx with rfl | hx | hx
    · exact h1.lt
    · exact h2.lt x hx
    · exact PM.lt h3 x hx
theorem cnt_plug : ∀ (R : List Fm) (t : Tr) (a : Nat), (plug R t).bs.count a = (pbs R ++ t.bs).count a
  | [], _, _ => rfl
  | f :: R, t, a => by
    simp only [plug, cnt_nd', pbs, List.count_cons, List.count_append, cnt_plug R t a]; omega
theorem mem_b {R : List Fm} {f : Fm} (h : f ∈ R) : f.b ∈ pbs R := by
  induction R with
  | nil => cases h
  | cons g R ih =>
    simp only [pbs, List.mem_cons, List.mem_append]
    rcases List.mem_cons.1 h with rfl | h
    · exact .inl rfl
    · exact .inr (.inr (ih h))

/-! ## Sorted lists -/
def Srt (L : List It2) : Prop := L.Pairwise fun a b => kx a < kx b
theorem srt_mid {A B : List It2} {x : It2} (h : Srt (A ++ x :: B)) : (∀ y ∈ A, kx y < kx x) ∧ (∀ y ∈ B, kx x < kx y) ∧ Srt A ∧ Srt B ∧ ∀ y ∈ A, ∀ z ∈ B, kx y < kx z := by
  obtain ⟨h1, h2, h3⟩ := List.pairwise_append.1 h
  obtain ⟨h4, h5⟩ := List.pairwise_cons.1 h2
  exact ⟨fun y hy => h3 y hy x (List.mem_cons_self ..), h4, h1, h5, fun y hy z hz => h3 y hy z (List.mem_cons_of_mem _ hz)⟩
theorem srt_put {A B : List It2} {e : It2} (hA : Srt A) (hB : Srt B) (h1 : ∀ y ∈ A, kx y < kx e) (h2 : ∀ y ∈ B, kx e < kx y) : Srt (A ++ e :: B) := by
  refine List.pairwise_append.2 ⟨hA, List.pairwise_cons.2 ⟨h2, hB⟩, fun y hy z hz => ?_⟩
  rcases List.mem_cons.1 hz with rfl | hz
  · exact h1 y hy
  · have := h1 y hy; have := h2 z hz; omega
/-- An entry among others: a further one, or in the place of one of the same key. -/
inductive InsL (L : List It2) (e : It2) : List It2 → Option It2 → Prop
  | new {A B : List It2} : L = A ++ B → (∀ y ∈ A, kx y < kx e) → (∀ y ∈ B, kx e < kx y) → InsL L e (A ++ e :: B) none
  | old {A B : List It2} {x : It2} : L = A ++ x :: B → kx x = kx e → InsL L e (A ++ e :: B) (some x)
theorem InsL.srt {L L' : List It2} {e : It2} {v : Option It2} (h : InsL L e L' v) (hL : Srt L) : Srt L' := by
  cases h with
  | new h h1 h2 =>
    subst h
    obtain ⟨a, b, _⟩ := List.pairwise_append.1 hL
    exact srt_put a b h1 h2
  | old h hx =>
    subst h
    obtain ⟨a, b, c, d, _⟩ := srt_mid hL
    exact srt_put c d (fun y hy => by have := a y hy; omega) fun y hy => by have := b y hy; omega
/-- What a key finds. -/
def look (L : List It2) (k : Int) : Option It2 := L.find? fun x => kx x == k
theorem look_none {L : List It2} {k : Int} : look L k = none ↔ ∀ x ∈ L, kx x ≠ k := by simp [look, List.find?_eq_none]
theorem look_mid {A B : List It2} {x : It2} {k : Int} (hA : ∀ y ∈ A, kx y ≠ k) (hx : kx x = k) : look (A ++ x :: B) k = some x := by
  unfold look
  rw [List.find?_append, List.find?_eq_none.2 (by simpa using hA)]
  simp [hx]
theorem look_skip {A B : List It2} {x : It2} {k : Int} (hx : kx x ≠ k) : look (A ++ x :: B) k = look (A ++ B) k := by
  unfold look
  simp [List.find?_append, List.find?_cons, hx]
theorem InsL.look {L L' : List It2} {e : It2} {v : Option It2} (h : InsL L e L' v) (hL : Srt L) : v = look L (kx e) ∧ (∀ k, look L' k = if k = kx e then some e else look L k) ∧ L'.length = L.length + (if v = none then 1 else 0) := by
  cases h with
  | @new A B h h1 h2 =>
    subst h
    refine ⟨(look_none.2 fun x hx => ?_).symm, fun k => ?_, by simp; omega⟩
    · rcases List.mem_append.1 hx with hx | hx
      · have := h1 x hx; omega
      · have := h2 x hx; omega
    · by_cases hk : k = kx e
      · rw [if_pos hk]; exact look_mid (fun y hy => by have := h1 y hy; omega) hk.symm
      · rw [if_neg hk, look_skip (fun h => hk h.symm)]
  | @old A B x h hx =>
    subst h
    obtain ⟨a, b, _⟩ := srt_mid hL
    refine ⟨(look_mid (fun y hy => by have := a y hy; omega) hx).symm, fun k => ?_, by simp⟩
    by_cases hk : k = kx e
    · rw [if_pos hk]; exact look_mid (fun y hy => by have := a y hy; omega) hk.symm
    · rw [if_neg hk, look_skip (fun h => hk h.symm), look_skip (fun h => hk (h.symm.trans hx))]
end Go.Proofs.Ytokejbejoegnnaa.E
