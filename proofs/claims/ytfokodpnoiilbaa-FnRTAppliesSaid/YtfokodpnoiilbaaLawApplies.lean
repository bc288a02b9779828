/-
  The statement of the law FnRTApplies, out of its walk. The frame of this text is the kit's own way; it was printed by this session's own program row.py.
-/
import Derived.Test.YtfokodpnoiilbaaRows
import Derived.WalkKit
import Derived.Test.YtfokodpnoiilbaaRow
import Derived.Test.YtfokodpnoiilbaaRI
namespace Go.Proofs.Ytfokodpnoiilbaa
open Go.ChangeShapes Go.WideShapes Go.ChangeAt Go.RowKit
set_option linter.unusedVariables false
namespace FnRTApplies
theorem own : ownKnob Try.prog.godebug = none := by kernel_rfl
theorem laidOut : laidOutB Try.prog = true := by kernel_rfl
theorem walk (a0 : Int) (a1 : Option Addr) (cap1 : Nat) (z1 : List (Nat → Int)) (a2 : Nat → Int) (a3 : Int) (w : World) (w0 : (Lit.int .u8 a0).wf = true) (w1 : E.Mvs .i8 w a1 z1) (w2 : ∀ j, j < 8 → (Lit.int .i8 (a2 j)).wf = true) (w3 : (Lit.int .u8 a3).wf = true) :
    Calls Try.prog 6 #[.int .u8 a0, .slice a1 z1.length cap1, .agg #[.int .i8 (a2 0), .int .i8 (a2 1), .int .i8 (a2 2), .int .i8 (a2 3), .int .i8 (a2 4), .int .i8 (a2 5), .int .i8 (a2 6), .int .i8 (a2 7)], .int .u8 a3] w fun e w' => e = .returned (.bool true) ∧ Below w.heap.size w w' := by
  exact E.F6_calls (E.F6_spec (E.wf_u8 w0) (E.wf_u8 w3) w1 fun w' f => ⟨rfl, f.below fun _ h => h.elim⟩)
set_option maxRecDepth 100000 in
theorem lifted (os : Os) (started : os.Started) (H : Type) (enc : TypeId × Value → H) :
    ReturnsInHanded {} Try.checked os 6 .any (Rows.fnRTAppliesSpec.pre6 enc Try.prog Try.f6 Rows.fnRTAppliesRow.domain false) (Rows.fnRTAppliesSpec.post enc Try.prog Try.f6 false true false false) := by
  refine returnsInHanded_of_change (C := Try.checked) own started (by kernel_rfl) Try.func6
    (ChangeSpec.witness6 (enc := enc) (C := Try.checked) false ⟨#[], #[.int .u8 0, .slice none 0 0, .agg #[.int .i8 0, .int .i8 0, .int .i8 0, .int .i8 0, .int .i8 0, .int .i8 0, .int .i8 0, .int .i8 0], .int .u8 0], []⟩ 8 (by kernel_rfl) (by kernel_rfl) (by kernel_rfl) (by kernel_rfl)) ?_
  intro W base args ds gs before hval0 hW hcnd _
  have hval : ∀ (j : Nat) t v, Try.f6.params[j]? = some t → args[j]? = some v → Value.okWide Try.prog W .any base t v := hval0
  have hW' := hW
  obtain ⟨p, q, hA0, hV, rfl, hfz, hnd⟩ := hW
  have hA : DataW.TrodAll enc Try.prog W 0 (fun _ => true) true Try.f6.params.toList args.toList ds p := hA0
  rw [Try.params6] at hA hval
  obtain ⟨v0, vs0, d0, ds0, p0, q0, hargs, rfl, rfl, h0, r0⟩ := trodAll_cons hA
  obtain ⟨v1, vs1, d1, ds1, p1, q1, rfl, rfl, rfl, h1, r1⟩ := trodAll_cons r0
  obtain ⟨v2, vs2, d2, ds2, p2, q2, rfl, rfl, rfl, h2, r2⟩ := trodAll_cons r1
  obtain ⟨v3, vs3, d3, ds3, p3, q3, rfl, rfl, rfl, h3, r3⟩ := trodAll_cons r2
  obtain ⟨rfl, rfl, rfl⟩ := trodAll_nil r3
  obtain rfl : args = #[v0, v1, v2, v3] := by cases args; simp_all
  obtain ⟨rfl, rfl⟩ := trodVars_none hV
  obtain ⟨a0, rfl, rfl, rfl, w0⟩ := open_int Try.underlying5 (hval 0 5 v0 rfl rfl) h0
  have k1 := h1
  have lt1 : ∀ x ∈ p1, x.block < W.heap.size := by obtain ⟨m, hm⟩ := k1; exact DataW.trod_lt m _ _ _ hm
  obtain ⟨a1, cap1, z1, rfl, w1⟩ := E.mvs_of Try.underlying41 Try.underlying45 Try.underlying44 (by kernel_rfl) (by kernel_rfl) (hval 1 41 v1 rfl rfl) h1
  have k2 := h2
  have lt2 : ∀ x ∈ p2, x.block < W.heap.size := by obtain ⟨m, hm⟩ := k2; exact DataW.trod_lt m _ _ _ hm
  obtain ⟨a2, rfl, w2⟩ := E.arr8_of Try.underlying45 Try.underlying44 (by kernel_rfl) (by kernel_rfl) (hval 2 45 v2 rfl rfl) h2
  obtain ⟨a3, rfl, rfl, rfl, w3⟩ := open_int Try.underlying5 (hval 3 5 v3 rfl rfl) h3
  clear hA0 hval0
  refine (walk a0 a1 cap1 z1 a2 a3 W w0 w1 w2 w3).mono fun e W' ⟨he, bel⟩ => ?_
  subst he
  exact ⟨_, rfl, _, _, _, [], _, [], hW', trodAll_mk1 (shut_bool Try.underlying4 _), (trodAll_cons_mk (shut_int Try.underlying5 w0) (trodAll_cons_mk (Below.trod laidOut (by kernel_rfl) (of_decide_eq_true (by kernel_rfl)) k1 bel lt1) (trodAll_cons_mk (Below.trod laidOut (by kernel_rfl) (of_decide_eq_true (by kernel_rfl)) k2 bel lt2) (trodAll_cons_mk (shut_int Try.underlying5 w3) trodAll_mk0)))), rfl, bel.frame _, fun h => by cases h⟩
theorem over : Rows.fnRTAppliesRow.holds Try.pinned (OpenSpec.ofChange Rows.fnRTAppliesSpec) :=
  OpenClaim.holds_of_wide 6 Try.f6 rfl rfl rfl rfl rfl rfl rfl ⟨rfl, rfl, rfl, rfl, rfl⟩ rfl rfl rfl rfl rfl (by kernel_rfl) Try.func6 (by kernel_rfl)
    (of_decide_eq_true (by kernel_rfl)) (by unfold Func.isWrapper; first | (rw [if_pos (by decide +kernel)]; kernel_rfl) | (rw [if_neg (by decide +kernel)]; exact ⟨rfl, rfl⟩))
    (fun os started H enc _ => lifted os started H enc)
end FnRTApplies
/-- The statement. -/
theorem fnRTApplies_holds : Rows.FnRTAppliesSaid := FnRTApplies.over
#print axioms fnRTApplies_holds
end Go.Proofs.Ytfokodpnoiilbaa
