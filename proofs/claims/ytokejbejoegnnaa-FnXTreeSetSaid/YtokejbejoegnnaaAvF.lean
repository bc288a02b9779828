/-
  The absolute value of a balance, by way of floats.
-/
import Derived.Test.YtokejbejoegnnaaAvN
import Derived.LaidEql
namespace Go.Proofs.Ytokejbejoegnnaa.E
open Go
set_option linter.unusedSimpArgs false
set_option linter.unusedVariables false
set_option maxRecDepth 100000
set_option maxHeartbeats 2000000

theorem NextT_float {P : Program} {s : Sem Next} {f : Nat → W} {n : Nat} {w w' : World} (h : s.run P w = .ok (.value (.float .f64 n)) w') (hk : f n w') : NextT P s (.s (.one (.float .f64))) f w := by
  unfold NextT; rw [h]; exact ⟨(n, ()), rfl, hk⟩
theorem RawT_float {P : Program} {s : Sem Value} {f : Nat → W} {n : Nat} {w w' : World} (h : s.run P w = .ok (.float .f64 n) w') (hk : f n w') : RawT P s (.s (.one (.float .f64))) f w := ⟨(n, ()), w', h, hk⟩
theorem bits_run (x : Nat) (w : World) : (callFunc 78 [.float .f64 x].toArray).run Try.prog w = .ok (.value (.int .u64 (x : Nat))) w := by kernel_rfl
theorem cvM2 (w : World) : (convert 116 132 (.int .i8 (-2))).run Try.prog w = .ok (.float .f64 13835058055282163712) w := by kernel_rfl
theorem cvM1 (w : World) : (convert 116 132 (.int .i8 (-1))).run Try.prog w = .ok (.float .f64 13830554455654793216) w := by kernel_rfl
theorem cv0 (w : World) : (convert 116 132 (.int .i8 0)).run Try.prog w = .ok (.float .f64 0) w := by kernel_rfl
theorem cv1 (w : World) : (convert 116 132 (.int .i8 1)).run Try.prog w = .ok (.float .f64 4607182418800017408) w := by kernel_rfl
theorem cv2 (w : World) : (convert 116 132 (.int .i8 2)).run Try.prog w = .ok (.float .f64 4611686018427387904) w := by kernel_rfl
theorem an0 : andNotI .u64 0 9223372036854775808 = 0 := by kernel_rfl
theorem an1 : andNotI .u64 4607182418800017408 9223372036854775808 = 4607182418800017408 := by kernel_rfl
theorem anM1 : andNotI .u64 13830554455654793216 9223372036854775808 = 4607182418800017408 := by kernel_rfl
theorem an2 : andNotI .u64 4611686018427387904 9223372036854775808 = 4611686018427387904 := by kernel_rfl
theorem anM2 : andNotI .u64 13835058055282163712 9223372036854775808 = 4611686018427387904 := by kernel_rfl
theorem fb0 (w : World) : (callFunc 77 [.int .u64 0].toArray).run Try.prog w = .ok (.value (.float .f64 0)) w := by kernel_rfl
theorem fb1 (w : World) : (callFunc 77 [.int .u64 4607182418800017408].toArray).run Try.prog w = .ok (.value (.float .f64 4607182418800017408)) w := by kernel_rfl
theorem fb2 (w : World) : (callFunc 77 [.int .u64 4611686018427387904].toArray).run Try.prog w = .ok (.value (.float .f64 4611686018427387904)) w := by kernel_rfl
def absBits (b : Int) : Nat := if b = 0 then 0 else if b = 1 ∨ b = -1 then 4607182418800017408 else 4611686018427387904
theorem conv_abs {b : Int} (hb : -2 ≤ b ∧ b ≤ 2) {K : Nat → W} {w : World} (hk : K (absBits b) w) : RawT Try.prog (convert 116 132 (.int .i8 b)) (.s (.one (.float .f64))) (fun x => CallT Try.prog 72 [.float .f64 x] (.s (.one (.float .f64))) K) w := by
  have h : b = -2 ∨ b = -1 ∨ b = 0 ∨ b = 1 ∨ b = 2 := by omega
  have go : ∀ (x y : Nat), (∀ w, (convert 116 132 (.int .i8 b)).run Try.prog w = .ok (.float .f64 x) w) → andNotI .u64 (x : Nat) 9223372036854775808 = (y : Nat) → (∀ w, (callFunc 77 [.int .u64 ((y : Nat) : Int)].toArray).run Try.prog w = .ok (.value (.float .f64 y)) w) → absBits b = y → RawT Try.prog (convert 116 132 (.int .i8 b)) (.s (.one (.float .f64))) (fun x => CallT Try.prog 72 [.float .f64 x] (.s (.one (.float .f64))) K) w := by
    intro x y h1 h2 h3 h4
    refine RawT_float (h1 w) (F72_call ?_)
    unfold F72
    refine NextT_int (bits_run x w) ?_
    rw [h2]
    refine NextT_float (h3 w) ?_
    rw [h4] at hk
    exact ⟨(y, ()), rfl, hk⟩
  rcases h with rfl | rfl | rfl | rfl | rfl
  · exact go _ 4611686018427387904 cvM2 anM2 fb2 rfl
  · exact go _ 4607182418800017408 cvM1 anM1 fb1 rfl
  · exact go _ 0 cv0 an0 fb0 rfl
  · exact go _ 4607182418800017408 cv1 an1 fb1 rfl
  · exact go _ 4611686018427387904 cv2 an2 fb2 rfl
theorem gt0 (t : Nat) (w : World) : (binS .gtr 132 (.tmp t) (.const (.float .f64 4607182418800017408)) (.float .f64 0) (.float .f64 4607182418800017408)).run Try.prog w = .ok (.bool false) w := by kernel_rfl
theorem gt1 (t : Nat) (w : World) : (binS .gtr 132 (.tmp t) (.const (.float .f64 4607182418800017408)) (.float .f64 4607182418800017408) (.float .f64 4607182418800017408)).run Try.prog w = .ok (.bool false) w := by kernel_rfl
theorem gt2 (t : Nat) (w : World) : (binS .gtr 132 (.tmp t) (.const (.float .f64 4607182418800017408)) (.float .f64 4611686018427387904) (.float .f64 4607182418800017408)).run Try.prog w = .ok (.bool true) w := by kernel_rfl
theorem eq0 (t : Nat) (w : World) : (binS .eql 132 (.tmp t) (.const (.float .f64 4607182418800017408)) (.float .f64 0) (.float .f64 4607182418800017408)).run Try.prog w = .ok (.bool false) w := by kernel_rfl
theorem eq1 (t : Nat) (w : World) : (binS .eql 132 (.tmp t) (.const (.float .f64 4607182418800017408)) (.float .f64 4607182418800017408) (.float .f64 4607182418800017408)).run Try.prog w = .ok (.bool true) w := by kernel_rfl
theorem eq2 (t : Nat) (w : World) : (binS .eql 132 (.tmp t) (.const (.float .f64 4607182418800017408)) (.float .f64 4611686018427387904) (.float .f64 4607182418800017408)).run Try.prog w = .ok (.bool false) w := by kernel_rfl
theorem abs_gt {b : Int} (hb : -2 ≤ b ∧ b ≤ 2) {t : Nat} {K : Bool → W} {w : World} (hk : K (decide (b = 2 ∨ b = -2)) w) : RawS Try.prog (binS .gtr 132 (.tmp t) (.const (.float .f64 4607182418800017408)) (.float .f64 (absBits b)) (.float .f64 4607182418800017408)) (.s (.one .bool)) K w := by
  have h : b = -2 ∨ b = -1 ∨ b = 0 ∨ b = 1 ∨ b = 2 := by omega
  rcases h with rfl | rfl | rfl | rfl | rfl
  · exact ⟨(true, ()), gt2 t w, hk⟩
  · exact ⟨(false, ()), gt1 t w, hk⟩
  · exact ⟨(false, ()), gt0 t w, hk⟩
  · exact ⟨(false, ()), gt1 t w, hk⟩
  · exact ⟨(true, ()), gt2 t w, hk⟩
theorem abs_eq {b : Int} (hb : -2 ≤ b ∧ b ≤ 2) {t : Nat} {K : Bool → W} {w : World} (hk : K (decide (b = 1 ∨ b = -1)) w) : RawS Try.prog (binS .eql 132 (.tmp t) (.const (.float .f64 4607182418800017408)) (.float .f64 (absBits b)) (.float .f64 4607182418800017408)) (.s (.one .bool)) K w := by
  have h : b = -2 ∨ b = -1 ∨ b = 0 ∨ b = 1 ∨ b = 2 := by omega
  rcases h with rfl | rfl | rfl | rfl | rfl
  · exact ⟨(false, ()), eq2 t w, hk⟩
  · exact ⟨(true, ()), eq1 t w, hk⟩
  · exact ⟨(false, ()), eq0 t w, hk⟩
  · exact ⟨(true, ()), eq1 t w, hk⟩
  · exact ⟨(false, ()), eq2 t w, hk⟩
/-- Two pointers compared. -/
def Known (w : World) (x : Option Addr) : Prop := x = none ∨ ∃ b t vs, x = some ⟨b, 0, none⟩ ∧ Blk w b t vs
theorem und115 : Try.prog.underlying 115 = some (.pointer 119) := by kernel_rfl
theorem size119 (w : World) : (sizeOf 119).run Try.prog w = .ok 4 w := by kernel_rfl
theorem run_ptrs {x y : Option Addr} {w : World} (hx : Known w x) (hy : Known w y) : (Op.equal 115 (.pointer x) (.pointer y)).run Try.prog w = .ok (decide (x = y)) w := by
  show (Op.equalIn (9999 + 1) 115 _ _).run _ w = _
  unfold Op.equalIn
  rcases hx with rfl | ⟨b, t, vs, rfl, hb⟩
  · rcases hy with rfl | ⟨c, t, vs, rfl, hc⟩
    · simp [run_underlying und115]
    · simp [run_underlying und115]
  · rcases hy with rfl | ⟨c, t', vs', rfl, hc⟩
    · simp [run_underlying und115]
    · simp only [Sem.run_bind, run_underlying und115, Result.andThen_ok, size119]
      by_cases hbc : b = c
      · subst hbc
        simp [run_sameAddr_same]
      · have hne : (⟨b, 0, none⟩ : Addr) ≠ ⟨c, 0, none⟩ := fun h => by cases h; exact hbc rfl
        have := run_sameAddr_other (P := Try.prog) (w := w) hne hb hc
        simp [this, hbc]
theorem ptr_eql {x y : Option Addr} {a b : Operand} {K : Bool → W} {w : World} (hx : Known w x) (hy : Known w y) (hk : K (decide (x = y)) w) : RawS Try.prog (binS .eql 115 a b (.pointer x) (.pointer y)) (.s (.one .bool)) K w := by
  refine ⟨(decide (x = y), ()), ?_, hk⟩
  have := run_ptrs hx hy
  unfold binS
  rw [Sem.run_bind, run_guard_ptr]
  simp [binOp, this]
  rfl
theorem ptr_neq {x y : Option Addr} {a b : Operand} {K : Bool → W} {w : World} (hx : Known w x) (hy : Known w y) (hk : K (decide (x ≠ y)) w) : RawS Try.prog (binS .neq 115 a b (.pointer x) (.pointer y)) (.s (.one .bool)) K w := by
  refine ⟨(decide (x ≠ y), ()), ?_, hk⟩
  have := run_ptrs hx hy
  unfold binS
  rw [Sem.run_bind, run_guard_ptr]
  simp [binOp, this]
  rfl
theorem Known.tr {w : World} {t : Tr} (h : TrM w t) : Known w t.ptr := by
  cases t with
  | nil => exact .inl rfl
  | nd b bal l e r => exact .inr ⟨b, _, _, rfl, h.1⟩
end Go.Proofs.Ytokejbejoegnnaa.E
