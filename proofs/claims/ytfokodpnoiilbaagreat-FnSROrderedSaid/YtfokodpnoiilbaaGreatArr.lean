/-
  Parameters that are arrays of whole numbers, and lists of such.
-/
import Derived.Test.YtfokodpnoiilbaaGreatRecA
namespace Go.Proofs.YtfokodpnoiilbaaGreat.E
open Go Go.ChangeShapes Go.WideShapes Go.ChangeAt Go.RowKit
set_option linter.unusedSimpArgs false
set_option linter.unusedVariables false

section
variable {H : Type} {enc : TypeId × Value → H} {P : Program} {W : World} {base : Nat} {sp : Nat → Bool} {held : Bool}
/-- The numbers of an array's cells. -/
theorem arr_cells {n : Nat} {t e : TypeId} {k : IntKind} {fuel : Nat} {cs : List Value} {x : DataW H × List MemPlace} (ht : P.underlying t = some (.array n e)) (he : P.underlying e = some (.int k)) (hc : P.cellsOf e = 1) (hl : cs.length = n)
    (h : DataW.trod enc P W base sp held fuel t cs = some x) : ∃ r : Nat → Int, ∀ j, j < n → cs[j]? = some (.int k (r j)) ∧ (Lit.int k (r j)).wf = true := by
  obtain ⟨xs, m, _, _, hxl, hx, hi⟩ := DataW.trod_array ht h
  have one : ∀ j, j < n → ∃ y : Int, cs[j]? = some (.int k y) ∧ (Lit.int k y).wf = true := by
    intro j hj
    have i0 := hi j hj
    rw [hc] at i0
    simp only [Nat.mul_one] at i0
    obtain ⟨x0, e0⟩ : ∃ x, xs[j]? = some x := ⟨_, List.getElem?_eq_getElem (by omega)⟩
    rw [e0] at i0
    have hcj : cs[j]? = some (cs[j]'(by omega)) := List.getElem?_eq_getElem (by omega)
    have e1 : (cs.drop j).take 1 = [cs[j]'(by omega)] := by rw [List.drop_eq_getElem_cons (by omega)]; rfl
    rw [e1] at i0
    obtain ⟨y, hy, w0⟩ := int_of he i0
    exact ⟨y, by rw [hcj, hy], w0⟩
  refine ⟨fun j => if hj : j < n then (one j hj).choose else 0, fun j hj => ?_⟩
  simp only [dif_pos hj]
  exact (one j hj).choose_spec
/-- A parameter that is an array of eight. -/
theorem arr8_of {t e : TypeId} {k : IntKind} {r : Reach} {b0 : Nat} {v : Value} {d : DataW H} {p : List MemPlace} (ht : P.underlying t = some (.array 8 e)) (he : P.underlying e = some (.int k)) (hC : P.cellsOf t = 8) (hc : P.cellsOf e = 1)
    (hv : Value.okWide P W r b0 t v) (h : DataW.Trod enc P W base sp held t v d p) : ∃ r : Nat → Int, v = .agg #[.int k (r 0), .int k (r 1), .int k (r 2), .int k (r 3), .int k (r 4), .int k (r 5), .int k (r 6), .int k (r 7)] ∧ ∀ j, j < 8 → (Lit.int k (r j)).wf = true := by
  obtain ⟨fuel, hf⟩ := h
  have ⟨cs, h1, h2⟩ : ∃ cs : Array Value, v = .agg cs ∧ cs.size = 8 := by
    simp only [Value.okWide, ht] at hv
    obtain ⟨cs, h1, h2, _⟩ := hv
    exact ⟨cs, h1, by rw [h2, hC]⟩
  subst h1
  have hf : DataW.trod enc P W base sp held fuel t cs.toList = some (d, p) := hf
  obtain ⟨r, hr⟩ := arr_cells ht he hc (by simpa using h2) hf
  refine ⟨r, ?_, fun j hj => (hr j hj).2⟩
  congr 1
  apply Array.ext
  · rw [h2]; rfl
  · intro i h3 h4
    have hi : i < 8 := by omega
    have := (hr i hi).1
    rw [Array.getElem?_toList, Array.getElem?_eq_getElem h3] at this
    injection this with this
    rw [this]
    match i, hi with
    | 0, _ => rfl
    | 1, _ => rfl
    | 2, _ => rfl
    | 3, _ => rfl
    | 4, _ => rfl
    | 5, _ => rfl
    | 6, _ => rfl
    | 7, _ => rfl
/-- Eight numbers in memory. -/
def Mv (k : IntKind) (W : World) (a : Addr) (r : Nat → Int) : Prop := ∀ j, j < 8 → W.cell? (a.add j) = some (.int k (r j)) ∧ (Lit.int k (r j)).wf = true
def Mvs (k : IntKind) (W : World) (p : Option Addr) (rs : List (Nat → Int)) : Prop := ∀ i r, rs[i]? = some r → ∃ a, p = some a ∧ Mv k W (a.add (i * 8)) r
/-- A parameter that is a list of arrays of eight. -/
theorem mvs_of {t a e : TypeId} {k : IntKind} {b : Nat} {v : Value} {d : DataW H} {ps : List MemPlace} (ht : P.underlying t = some (.slice a)) (ha : P.underlying a = some (.array 8 e)) (he : P.underlying e = some (.int k)) (hC : P.cellsOf a = 8) (hc : P.cellsOf e = 1)
    (hval : Value.okWide P W .any b t v) (h : DataW.Trod enc P W base sp held t v d ps) : ∃ p c rs, v = .slice p rs.length c ∧ Mvs k W p rs := by
  obtain ⟨fuel, hf⟩ := trod_arg ht hval h
  obtain ⟨p, c, rs, h1, h2, h3, h4⟩ := recs_of (R := fun a r => Mv k W a r) ht hC (fun n cs x a hl hx hcell => by
    obtain ⟨r, hr⟩ := arr_cells ha he hc hl hx
    exact ⟨r, fun j hj => ⟨by rw [hcell j hj]; exact (hr j hj).1, (hr j hj).2⟩⟩) hf
  exact ⟨p, c, rs, h1, h4⟩
theorem Mvs.fr0 {k : IntKind} {W W' : World} {p : Option Addr} {rs : List (Nat → Int)} (h : Mvs k W p rs) (f : Fr (fun _ => False) W W') : Mvs k W' p rs := fun i r hr => by
  obtain ⟨a, h1, h2⟩ := h i r hr
  exact ⟨a, h1, fun j hj => ⟨by rw [f.cell (cell_lt (h2 j hj).1) id]; exact (h2 j hj).1, (h2 j hj).2⟩⟩
end
end Go.Proofs.YtfokodpnoiilbaaGreat.E
