/-
  What a statement's row tells of its arguments, in plain words.
-/
import Derived.WalkKit
import Derived.ProofKit
import Derived.OpenShut
import Derived.ShutString
import Derived.ChangeOld
import Derived.Below
namespace Go.Proofs.Ytancdjhojdfejaa.E
open Go

theorem wf_int {k : IntKind} {n : Int} (h : (Lit.int k n).wf = true) : k.min ≤ n ∧ n ≤ k.max := by
  have h' := (Bool.and_eq_true _ _).mp h
  exact ⟨of_decide_eq_true h'.1, of_decide_eq_true h'.2⟩
theorem wf_u8 {n : Int} (h : (Lit.int .u8 n).wf = true) : 0 ≤ n ∧ n < 256 := ⟨(wf_int h).1, Int.lt_add_one_of_le (wf_int h).2⟩
theorem wf_u16 {n : Int} (h : (Lit.int .u16 n).wf = true) : 0 ≤ n ∧ n < 65536 := ⟨(wf_int h).1, Int.lt_add_one_of_le (wf_int h).2⟩
theorem wf_u32 {n : Int} (h : (Lit.int .u32 n).wf = true) : 0 ≤ n ∧ n < 4294967296 := ⟨(wf_int h).1, Int.lt_add_one_of_le (wf_int h).2⟩
theorem wf_u64 {n : Int} (h : (Lit.int .u64 n).wf = true) : 0 ≤ n ∧ n < 18446744073709551616 := ⟨(wf_int h).1, Int.lt_add_one_of_le (wf_int h).2⟩
theorem wf_i8 {n : Int} (h : (Lit.int .i8 n).wf = true) : -128 ≤ n ∧ n < 128 := ⟨(wf_int h).1, Int.lt_add_one_of_le (wf_int h).2⟩
theorem wf_i16 {n : Int} (h : (Lit.int .i16 n).wf = true) : -32768 ≤ n ∧ n < 32768 := ⟨(wf_int h).1, Int.lt_add_one_of_le (wf_int h).2⟩
theorem wf_i32 {n : Int} (h : (Lit.int .i32 n).wf = true) : -2147483648 ≤ n ∧ n < 2147483648 := ⟨(wf_int h).1, Int.lt_add_one_of_le (wf_int h).2⟩
theorem wf_i64 {n : Int} (h : (Lit.int .i64 n).wf = true) : -9223372036854775808 ≤ n ∧ n < 9223372036854775808 := ⟨(wf_int h).1, Int.lt_add_one_of_le (wf_int h).2⟩

/-- What the walk is told of a slice of whole numbers that came in: it is nil; or it leads to a row of 'cap' cells, the numbers 'zs' (the first 'len' are its elements, the rest its spare room), each fitting its kind. -/
def IsRow (k : IntKind) (w : World) (a : Option Addr) (len cap : Nat) (zs : List Int) : Prop :=
  (a = none ∧ len = 0 ∧ cap = 0 ∧ zs = []) ∨
  ∃ x, a = some x ∧ len ≤ cap ∧ cap ≤ maxLen ∧ zs.length = cap ∧ (∀ i, i < zs.length → w.cell? (x.add i) = some (.int k (zs.getD i 0))) ∧ ∀ n ∈ zs, (Lit.int k n).wf = true

end Go.Proofs.Ytancdjhojdfejaa.E
