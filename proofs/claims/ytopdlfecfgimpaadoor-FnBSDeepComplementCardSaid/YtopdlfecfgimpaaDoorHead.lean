/-
  The law FnBSDeepHead, walked. The straight parts were printed by this session's own program walk.py.
-/
import Derived.Test.YtopdlfecfgimpaaDoorImpl2
import Derived.Test.YtopdlfecfgimpaaDoorFlip
namespace Go.Proofs.YtopdlfecfgimpaaDoor.E
open Go
set_option linter.unusedSimpArgs false
set_option linter.unusedVariables false
set_option maxRecDepth 100000

theorem set_lt {n i : Nat} {f : Nat → Bool} (hf : ∀ j, f j = true → j < n) : ∀ j, (f j || decide (j = i)) = true → j < max n (i + 1) := by
  intro j hj
  simp only [Bool.or_eq_true, decide_eq_true_eq] at hj
  rcases hj with h | h
  · have := hf j h; omega
  · omega
end Go.Proofs.YtopdlfecfgimpaaDoor.E
