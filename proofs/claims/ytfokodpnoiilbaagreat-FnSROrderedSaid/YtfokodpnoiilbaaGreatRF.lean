/-
  Range trees: the statements' own lists of entries (RTCompare, rtAt, RTGet, RTDrop, RTPut).
-/
import Derived.Test.YtfokodpnoiilbaaGreatRE
import Derived.Test.YtfokodpnoiilbaaGreatFnsE
namespace Go.Proofs.YtfokodpnoiilbaaGreat.E
open Go
set_option linter.unusedSimpArgs false
set_option linter.unusedVariables false
set_option maxRecDepth 100000
set_option maxHeartbeats 8000000

theorem sl64_get {w : World} {p : Option Addr} {l : List Int} (h : Sl In64K w p l) {i : Nat} {x : Int} (hx : l[i]? = some x) : ∃ q o, p = some ⟨q, o, none⟩ ∧ w.cell? ⟨q, o + i, none⟩ = some (.int .i64 x) := by
  obtain ⟨q, o, rfl, g0⟩ := h.get hx
  refine ⟨q, o, rfl, ?_⟩
  have : w.cell? ⟨q, o + i * 1 + 0, none⟩ = some (.int .i64 x) := g0
  rw [show o + i * 1 + 0 = o + i by omega] at this; exact this
section
variable {w : World} {k : Value → W}
variable {n : Nat} {l : List PD} {pt : List Int} {p q : Option Addr} {c d : Nat}
theorem back_dob {f : Option Addr → Nat → Nat → Int → Bool → W} {p : Option Addr} {l c : Nat} {x : Int} {b : Bool} (h : f p l c x b w) : Back (.tup [(.agg [.slice, (.int .i64)]), (.one .bool)]) f (.returned (.tuple #[.agg #[.slice p l c, .int .i64 x], .bool b])) w := ⟨((p, l, c), x, b, ()), rfl, h⟩
end
end Go.Proofs.YtfokodpnoiilbaaGreat.E
