/-
  Lists of records that came in as arguments: what a statement's row tells of them.
-/
import Derived.Test.YtfokodpnoiilbaaGreatRow
import Derived.Test.YtfokodpnoiilbaaGreatBlk
import Derived.Deep.Strs
namespace Go.Proofs.YtfokodpnoiilbaaGreat.E
open Go Go.ChangeShapes Go.WideShapes Go.ChangeAt Go.RowKit
set_option linter.unusedSimpArgs false
set_option linter.unusedVariables false

section
variable {H : Type} {enc : TypeId × Value → H} {P : Program} {W : World} {base : Nat} {sp : Nat → Bool} {held : Bool}
/-- A list of records: each of them as its cells tell. -/
theorem recs_of {α : Type} {t e sz : Nat} {R : Addr → α → Prop} (ht : P.underlying t = some (.slice e)) (hc : P.cellsOf e = sz)
    (each : ∀ (fuel : Nat) (cs : List Value) (x : DataW H × List MemPlace) (a : Addr), cs.length = sz → DataW.trod enc P W base sp held fuel e cs = some x → (∀ j, j < sz → W.cell? (a.add j) = cs[j]?) → ∃ r, R a r)
    {fuel : Nat} {v : Value} {x : DataW H × List MemPlace} (h : DataW.trod enc P W base sp held fuel t [v] = some x) :
    ∃ (p : Option Addr) (c : Nat) (rs : List α), v = .slice p rs.length c ∧ rs.length ≤ c ∧ c ≤ maxLen ∧ ∀ i r, rs[i]? = some r → ∃ a, p = some a ∧ R (a.add (i * sz)) r := by
  rcases DataW.trod_slice ht h with ⟨hcs, _⟩ | ⟨a, len, cap, elems, rest, n, _, hcs, _, hb, hl, hm, hlen, hel, _, _⟩
  · simp at hcs
    exact ⟨none, 0, [], hcs, Nat.le_refl _, by decide, fun i r hr => by simp at hr⟩
  · simp at hcs
    have ex : ∀ i, i < len → ∃ r, R (a.add (i * sz)) r := by
      intro i hi
      have h := hel i hi
      rw [List.getElem?_eq_getElem (by omega), hc, Option.bind_eq_some_iff] at h
      obtain ⟨cs, h1, h2⟩ := h
      obtain ⟨_, hcl, hcell⟩ := World.cells?_some h1
      exact each n cs _ (a.add (i * sz)) hcl h2 hcell
    refine ⟨some a, cap, (List.range len).attach.map fun i => (ex i.1 (List.mem_range.1 i.2)).choose, by rw [hcs]; simp, by simpa using hl, hm, fun i r hr => ⟨a, rfl, ?_⟩⟩
    have hi : i < len := by have := (List.getElem?_eq_some_iff.1 hr).1; simpa using this
    rw [List.getElem?_map, List.getElem?_eq_getElem (by simpa using hi)] at hr
    simp only [Option.map_some, Option.some.injEq] at hr
    subst hr
    have := (ex i hi).choose_spec
    simpa using this
/-- An argument that is a slice. -/
theorem trod_arg {t e : TypeId} {b : Nat} {v : Value} {d : DataW H} {ps : List MemPlace} (ht : P.underlying t = some (.slice e)) (hval : Value.okWide P W .any b t v) (h : DataW.Trod enc P W base sp held t v d ps) :
    ∃ fuel, DataW.trod enc P W base sp held fuel t [v] = some (d, ps) := by
  obtain ⟨fuel, hf⟩ := h
  obtain ⟨p, l, c, rfl⟩ := okWide_slice ht hval
  exact ⟨fuel, hf⟩
end
end Go.Proofs.YtfokodpnoiilbaaGreat.E
