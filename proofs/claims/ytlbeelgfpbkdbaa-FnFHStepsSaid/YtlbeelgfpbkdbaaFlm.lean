/-
  Lists of records as rows of cells: each record takes the same number of cells.
-/
import Derived.Test.YtlbeelgfpbkdbaaLists
namespace Go.Proofs.Ytlbeelgfpbkdbaa.E
open Go
set_option linter.unusedSimpArgs false
set_option linter.unusedVariables false

section
variable {α : Type} {f : α → List Value} {sz : Nat}
theorem fm_len (h : ∀ x, (f x).length = sz) : ∀ l : List α, (l.flatMap f).length = l.length * sz
  | [] => by simp
  | x :: l => by rw [List.flatMap_cons, List.length_append, h, fm_len h l, List.length_cons, Nat.succ_mul]; omega
theorem fm_get (h : ∀ x, (f x).length = sz) : ∀ (l : List α) (i j : Nat) (x : α), l[i]? = some x → j < sz → (l.flatMap f)[i * sz + j]? = (f x)[j]?
  | [], _, _, _, h', _ => by cases h'
  | y :: l, 0, j, x, h', hj => by
    simp at h'; subst h'
    rw [List.flatMap_cons, Nat.zero_mul, Nat.zero_add, List.getElem?_append_left (by rw [h]; exact hj)]
  | y :: l, i + 1, j, x, h', hj => by
    rw [List.flatMap_cons, List.getElem?_append_right (by rw [h, Nat.succ_mul]; omega), h, Nat.succ_mul, show i * sz + sz + j - sz = i * sz + j by omega]
    exact fm_get h l i j x (by simpa using h') hj
theorem fm_one (h : ∀ x, ∀ u ∈ f x, u.oneCell' = true) (l : List α) : ∀ u ∈ l.flatMap f, u.oneCell' = true := fun u hu => by
  obtain ⟨x, _, hx⟩ := List.mem_flatMap.1 hu
  exact h x u hx
/-- The cells of a record in a row of one's own. -/
theorem OwnN.rec {w : World} {e : TypeId} {p : Option Addr} {l c : Nat} {xs : List α} (hN : OwnN w e sz p l c (xs.flatMap f)) (h : ∀ x, (f x).length = sz) (hs : 0 < sz) {i : Nat} {x : α} (hx : xs[i]? = some x) :
    ∃ q, p = some ⟨q, 0, none⟩ ∧ ∀ j, j < sz → w.cell? ⟨q, i * sz + j, none⟩ = (f x)[j]? := by
  have hl := hN.1
  rw [fm_len h] at hl
  have hl' : xs.length = l := Nat.eq_of_mul_eq_mul_right hs hl
  have hi : i < xs.length := (List.getElem?_eq_some_iff.1 hx).1
  obtain ⟨q, rest, rfl, _⟩ := hN.get (by omega)
  refine ⟨q, rfl, fun j hj => ?_⟩
  rw [hN.cell (by
    have h1 := Nat.mul_le_mul_right sz (show i + 1 ≤ l by omega)
    rw [Nat.succ_mul] at h1; omega)]
  exact fm_get h xs i j x hx hj
theorem Blk.rec {w : World} {e : TypeId} {q : Nat} {xs : List α} (hB : Blk w q e (xs.flatMap f)) (h : ∀ x, (f x).length = sz) {i j : Nat} {x : α} (hx : xs[i]? = some x) (hj : j < sz) : w.cell? ⟨q, i * sz + j, none⟩ = (f x)[j]? := by
  rw [hB.cell]; exact fm_get h xs i j x hx hj
end
end Go.Proofs.Ytlbeelgfpbkdbaa.E
