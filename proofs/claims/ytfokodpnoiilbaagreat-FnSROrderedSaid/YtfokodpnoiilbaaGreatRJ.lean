/-
  Range trees: a step's cells.
-/
import Derived.Test.YtfokodpnoiilbaaGreatRH
namespace Go.Proofs.YtfokodpnoiilbaaGreat.E
open Go
set_option linter.unusedSimpArgs false
set_option linter.unusedVariables false
set_option maxRecDepth 100000
set_option maxHeartbeats 8000000

def z49 : Value := .agg #[.int .i64 0, .int .i64 0, .slice none 0 0, .slice none 0 0, .slice none 0 0, .int .u64 0, .int .i64 0, .int .i64 0, .int .i64 0]
theorem und57 : Tryz.prog.underlying 23 = some (.slice 31) := by kernel_rfl
theorem inf49 : ∃ i, Tryz.prog.info? 31 = some i ∧ i.zero = some z49 ∧ i.size = 9 ∧ i.bytes ≤ 4096 := ⟨_, rfl, by kernel_rfl, by kernel_rfl, Nat.le_of_ble_eq_true (by kernel_rfl)⟩
/-- A step's cells. -/
def clsD (op on : Int) (p : Option Addr) (l c : Nat) (q : Option Addr) (m d : Nat) (r : Option Addr) (a b : Nat) (dim idx num most : Int) : List Value := [.int .i64 op, .int .i64 on, .slice p l c, .slice q m d, .slice r a b, .int .u64 dim, .int .i64 idx, .int .i64 num, .int .i64 most]
theorem dst_row {w : World} {s : DStp} {on : Int} {p : Option Addr} {c : Nat} {q : Option Addr} {d : Nat} {r : Option Addr} {b : Nat} {dim idx num : Int} (h1 : Sl (DoK 42) w p s.dots) (h2 : Sl In64K w q s.low) (h3 : Sl In64K w r s.high) : DStK.P w (fun j => (clsD s.op on p s.dots.length c q s.low.length d r s.high.length b dim idx num ((s.most : Nat) : Int))[j]?) s :=
  ⟨on, p, c, q, d, r, b, dim, idx, num, rfl, rfl, rfl, rfl, rfl, rfl, rfl, rfl, rfl, h1, h2, h3⟩
end Go.Proofs.YtfokodpnoiilbaaGreat.E
