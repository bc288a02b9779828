/-
  The law FnBSDeepFlip, walked. The straight part was printed by this session's own program walk.py.
-/
import Derived.Test.YtopdlfecfgimpaaDoorImpl
namespace Go.Proofs.YtopdlfecfgimpaaDoor.E
open Go
set_option linter.unusedSimpArgs false
set_option linter.unusedVariables false
set_option maxRecDepth 100000

theorem L_more {n m : Nat} {f : Nat → Bool} (h : n ≤ m) (hf : ∀ j, f j = true → j < n) : L m f = L n f := by
  obtain ⟨d, rfl⟩ := Nat.exists_eq_add_of_le h
  clear h
  induction d with
  | zero => rfl
  | succ d ih =>
    have : f (n + d) = false := by
      cases hb : f (n + d) with
      | false => rfl
      | true => have := hf _ hb; omega
    rw [← Nat.add_assoc, L_succ, this, ih]; simp
theorem flip_twice {f : Nat → Bool} {i : Nat} : (fun j => (f j ^^ decide (j = i)) ^^ decide (j = i)) = f := by
  funext j; cases f j <;> cases decide (j = i) <;> rfl
theorem flip_lt {n i : Nat} {f : Nat → Bool} (hf : ∀ j, f j = true → j < n) : ∀ j, (f j ^^ decide (j = i)) = true → j < max n (i + 1) := by
  intro j hj
  by_cases e : j = i
  · omega
  · simp only [e, decide_false, Bool.xor_false] at hj
    have := hf j hj; omega

end Go.Proofs.YtopdlfecfgimpaaDoor.E
