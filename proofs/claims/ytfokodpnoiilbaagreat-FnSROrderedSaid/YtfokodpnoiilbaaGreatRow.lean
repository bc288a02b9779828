/-
  What a statement's row tells of its arguments, in plain words.
-/
import Derived.WalkKit
import Derived.ProofKit
import Derived.OpenShut
import Derived.ShutString
import Derived.ChangeOld
import Derived.Below
import Derived.Lib.SmallJoins
namespace Go.Proofs.YtfokodpnoiilbaaGreat.E
open Go

theorem wf_int {k : IntKind} {n : Int} (h : (Lit.int k n).wf = true) : k.min ≤ n ∧ n ≤ k.max := by
  have h' := (Bool.and_eq_true _ _).mp h
  exact ⟨of_decide_eq_true h'.1, of_decide_eq_true h'.2⟩
theorem wf_u8 {n : Int} (h : (Lit.int .u8 n).wf = true) : 0 ≤ n ∧ n < 256 := ⟨(wf_int h).1, Int.lt_add_one_of_le (wf_int h).2⟩
theorem wf_u16 {n : Int} (h : (Lit.int .u16 n).wf = true) : 0 ≤ n ∧ n < 65536 := ⟨(wf_int h).1, Int.lt_add_one_of_le (wf_int h).2⟩
theorem wf_u32 {n : Int} (h : (Lit.int .u32 n).wf = true) : 0 ≤ n ∧ n < 4294967296 := ⟨(wf_int h).1, Int.lt_add_one_of_le (wf_int h).2⟩
theorem wf_u64 {n : Int} (h : (Lit.int .u64 n).wf = true) : 0 ≤ n ∧ n < 18446744073709551616 := ⟨(wf_int h).1, Int.lt_add_one_of_le (wf_int h).2⟩
theorem wf_i8 {n : Int} (h : (Lit.int .i8 n).wf = true) : -128 ≤ n ∧ n < 128 := ⟨(wf_int h).1, Int.lt_add_one_of_le (wf_int h).2⟩
theorem wf_i16 {n : Int} (h : (Lit.int .i16 n).wf = true) : -32768 ≤ n ∧ n < 32768 := ⟨(wf_int h).1, Int.lt_add_one_of_le (wf_int h).2⟩
theorem wf_i32 {n : Int} (h : (Lit.int .i32 n).wf = true) : -2147483648 ≤ n ∧ n < 2147483648 := ⟨(wf_int h).1, Int.lt_add_one_of_le (wf_int h).2⟩
theorem wf_i64 {n : Int} (h : (Lit.int .i64 n).wf = true) : -9223372036854775808 ≤ n ∧ n < 9223372036854775808 := ⟨(wf_int h).1, Int.lt_add_one_of_le (wf_int h).2⟩

/-- What the walk is told of a slice of whole numbers that came in: it is nil; or it leads to a row of 'cap' cells, the numbers 'zs' (the first 'len' are its elements, the rest its spare room), each fitting its kind. -/
def IsRow (k : IntKind) (w : World) (a : Option Addr) (len cap : Nat) (zs : List Int) : Prop :=
  (a = none ∧ len = 0 ∧ cap = 0 ∧ zs = []) ∨
  ∃ x, a = some x ∧ len ≤ cap ∧ cap ≤ maxLen ∧ zs.length = cap ∧ (∀ i, i < zs.length → w.cell? (x.add i) = some (.int k (zs.getD i 0))) ∧ ∀ n ∈ zs, (Lit.int k n).wf = true

section
open Go.ChangeShapes Go.WideShapes Go.ChangeAt Go.RowKit
variable {H : Type} {enc : TypeId × Value → H} {P : Program} {w : World} {base : Nat} {held : Bool}
theorem isRow_of {t e : TypeId} {k : IntKind} {fuel : Nat} {v : Value} {x : DataW H × List MemPlace} (ht : P.underlying t = some (.slice e)) (he : P.underlying e = some (.int k)) (hc : P.cellsOf e = 1)
    (h : DataW.trod enc P w base (fun _ => true) held fuel t [v] = some x) : ∃ a len cap zs, v = .slice a len cap ∧ IsRow k w a len cap zs := by
  rcases open_ints ht he hc h with ⟨hcs, _⟩ | ⟨x, l, c, zs, hcs, _, hl, hm, hz, _, hcell, hwz⟩
  · simp at hcs
    exact ⟨_, _, _, [], hcs, .inl ⟨rfl, rfl, rfl, rfl⟩⟩
  · simp at hcs
    exact ⟨_, _, _, zs, hcs, .inr ⟨_, rfl, hl, hm, by simpa using hz, hcell, hwz⟩⟩
theorem int_of {t : TypeId} {k : IntKind} {fuel : Nat} {v : Value} {sp : Nat → Bool} {x : DataW H × List MemPlace} (ht : P.underlying t = some (.int k))
    (h : DataW.trod enc P w base sp held fuel t [v] = some x) : ∃ n, v = .int k n ∧ (Lit.int k n).wf = true := by
  obtain ⟨n, hcs, _, hw⟩ := DataW.trod_int ht h
  simp at hcs
  exact ⟨n, hcs, hw⟩
end

end Go.Proofs.YtfokodpnoiilbaaGreat.E
