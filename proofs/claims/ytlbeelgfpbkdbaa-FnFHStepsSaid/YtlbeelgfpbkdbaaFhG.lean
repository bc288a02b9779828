/-
  A parameter of two numbers, opened.
-/
import Derived.Test.YtlbeelgfpbkdbaaFhE
import Derived.Test.YtlbeelgfpbkdbaaRow
namespace Go.Proofs.Ytlbeelgfpbkdbaa.E
open Go
section
open Go.ChangeShapes Go.WideShapes Go.ChangeAt Go.RowKit
variable {H : Type} {enc : TypeId × Value → H} {P : Program} {w : World} {base : Nat} {held : Bool}
theorem arr2_of {t e : TypeId} {k : IntKind} {r : Reach} {b0 : Nat} {v : Value} {d : DataW H} {p : List MemPlace} {sp : Nat → Bool} (ht : P.underlying t = some (.array 2 e)) (he : P.underlying e = some (.int k)) (hC : P.cellsOf t = 2) (hc : P.cellsOf e = 1)
    (hv : Value.okWide P w r b0 t v) (h : DataW.Trod enc P w base sp held t v d p) : ∃ x y : Int, v = .agg #[.int k x, .int k y] ∧ (Lit.int k x).wf = true ∧ (Lit.int k y).wf = true := by
  obtain ⟨fuel, hf⟩ := h
  have ⟨cs, h1, h2⟩ : ∃ cs : Array Value, v = .agg cs ∧ cs.size = 2 := by
    simp only [Value.okWide, ht] at hv
    obtain ⟨cs, h1, h2, _⟩ := hv
    exact ⟨cs, h1, by rw [h2, hC]⟩
  subst h1
  obtain ⟨a, b, rfl⟩ : ∃ a b, cs = #[a, b] := by
    match cs, h2 with
    | ⟨[a, b]⟩, _ => exact ⟨a, b, rfl⟩
  obtain ⟨xs, m, _, _, hl, hx, hi⟩ := DataW.trod_array ht hf
  have i0 := hi 0 (by decide)
  have i1 := hi 1 (by decide)
  rw [hc] at i0 i1
  simp only [Value.cells, Nat.zero_mul, List.drop_zero, Nat.one_mul] at i0 i1
  obtain ⟨x0, e0⟩ : ∃ x, xs[0]? = some x := ⟨_, List.getElem?_eq_getElem (by omega)⟩
  obtain ⟨x1, e1⟩ : ∃ x, xs[1]? = some x := ⟨_, List.getElem?_eq_getElem (by omega)⟩
  rw [e0] at i0
  rw [e1] at i1
  obtain ⟨x, hx, w0⟩ := int_of he (v := a) i0
  obtain ⟨y, hy, w1⟩ := int_of he (v := b) i1
  exact ⟨x, y, by rw [hx, hy], w0, w1⟩
end
end Go.Proofs.Ytlbeelgfpbkdbaa.E
