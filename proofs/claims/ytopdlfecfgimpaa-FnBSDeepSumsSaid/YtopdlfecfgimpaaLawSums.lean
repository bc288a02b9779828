/-
  The statement of the law FnBSDeepSums, out of its walk. The frame of this text is the kit's own way; it was printed by this session's own program row.py.
-/
import Derived.Test.YtopdlfecfgimpaaRows
import Derived.WalkKit
import Derived.Test.YtopdlfecfgimpaaRow
import Derived.Test.YtopdlfecfgimpaaSums
namespace Go.Proofs.Ytopdlfecfgimpaa
open Go.ChangeShapes Go.WideShapes Go.ChangeAt Go.RowKit
set_option linter.unusedVariables false
namespace FnBSDeepSums
theorem own : ownKnob Try.prog.godebug = none := by kernel_rfl
theorem laidOut : laidOutB Try.prog = true := by kernel_rfl
theorem walk (a0a : Int) (a0b : Option Addr) (lena0b capa0b : Nat) (za0b : List Int) (a1a : Int) (a1b : Option Addr) (lena1b capa1b : Nat) (za1b : List Int) (a2 : Int) (w : World) (wa0a : (Lit.int .u64 a0a).wf = true) (wa0b : E.IsRow .u64 w a0b lena0b capa0b za0b) (wa1a : (Lit.int .u64 a1a).wf = true) (wa1b : E.IsRow .u64 w a1b lena1b capa1b za1b) (w2 : (Lit.int .u16 a2).wf = true) :
    Calls Try.prog 7 #[.agg #[.int .u64 a0a, .slice a0b lena0b capa0b], .agg #[.int .u64 a1a, .slice a1b lena1b capa1b], .int .u16 a2] w fun e w' => e = .returned (.bool true) ∧ Below w.heap.size w w' := by
  have h0 := E.wf_u64 wa0a
  have h1 := E.wf_u64 wa1a
  have h2 := E.wf_u16 w2
  obtain ⟨x, rfl⟩ := Int.eq_ofNat_of_zero_le h0.1
  obtain ⟨y, rfl⟩ := Int.eq_ofNat_of_zero_le h1.1
  obtain ⟨a, rfl⟩ := Int.eq_ofNat_of_zero_le h2.1
  exact E.F7_calls (E.F7_spec (by omega) (E.reads_of wa0b) (by omega) (E.reads_of wa1b) (by omega) fun w' f => ⟨rfl, f.below fun _ h => h.elim⟩)
set_option maxRecDepth 100000 in
theorem lifted (os : Os) (started : os.Started) (H : Type) (enc : TypeId × Value → H) :
    ReturnsInHanded {} Try.checked os 7 .any (Rows.fnBSDeepSumsSpec.pre6 enc Try.prog Try.f7 Rows.fnBSDeepSumsRow.domain false) (Rows.fnBSDeepSumsSpec.post enc Try.prog Try.f7 false true false false) := by
  refine returnsInHanded_of_change (C := Try.checked) own started (by kernel_rfl) Try.func7
    (ChangeSpec.witness6 (enc := enc) (C := Try.checked) false ⟨#[], #[.agg #[.int .u64 0, .slice none 0 0], .agg #[.int .u64 0, .slice none 0 0], .int .u16 0], []⟩ 8 (by kernel_rfl) (by kernel_rfl) (by kernel_rfl) (by kernel_rfl)) ?_
  intro W base args ds gs before hval0 hW hcnd _
  have hval : ∀ (j : Nat) t v, Try.f7.params[j]? = some t → args[j]? = some v → Value.okWide Try.prog W .any base t v := hval0
  have hW' := hW
  obtain ⟨p, q, hA0, hV, rfl, hfz, hnd⟩ := hW
  have hA : DataW.TrodAll enc Try.prog W 0 (fun _ => true) true Try.f7.params.toList args.toList ds p := hA0
  rw [Try.params7] at hA hval
  obtain ⟨v0, vs0, d0, ds0, p0, q0, hargs, rfl, rfl, h0, r0⟩ := trodAll_cons hA
  obtain ⟨v1, vs1, d1, ds1, p1, q1, rfl, rfl, rfl, h1, r1⟩ := trodAll_cons r0
  obtain ⟨v2, vs2, d2, ds2, p2, q2, rfl, rfl, rfl, h2, r2⟩ := trodAll_cons r1
  obtain ⟨rfl, rfl, rfl⟩ := trodAll_nil r2
  obtain rfl : args = #[v0, v1, v2] := by cases args; simp_all
  obtain ⟨rfl, rfl⟩ := trodVars_none hV
  have k0 := h0
  have lt0 : ∀ x ∈ p0, x.block < W.heap.size := by obtain ⟨m, hm⟩ := k0; exact DataW.trod_lt m _ _ _ hm
  obtain ⟨v0a, v0b, y0a, y0b, n0, rfl, rfl, rfl, h0a, h0b⟩ := Go.Joins.open_agg2 Try.underlying25 (by kernel_rfl) (by kernel_rfl) (hval 0 25 v0 rfl rfl) h0
  obtain ⟨a0a, rfl, wa0a⟩ := E.int_of Try.underlying22 h0a
  obtain ⟨a0b, lena0b, capa0b, za0b, rfl, wa0b⟩ := E.isRow_of Try.underlying23 Try.underlying22 (by kernel_rfl) h0b
  have k1 := h1
  have lt1 : ∀ x ∈ p1, x.block < W.heap.size := by obtain ⟨m, hm⟩ := k1; exact DataW.trod_lt m _ _ _ hm
  obtain ⟨v1a, v1b, y1a, y1b, n1, rfl, rfl, rfl, h1a, h1b⟩ := Go.Joins.open_agg2 Try.underlying25 (by kernel_rfl) (by kernel_rfl) (hval 1 25 v1 rfl rfl) h1
  obtain ⟨a1a, rfl, wa1a⟩ := E.int_of Try.underlying22 h1a
  obtain ⟨a1b, lena1b, capa1b, za1b, rfl, wa1b⟩ := E.isRow_of Try.underlying23 Try.underlying22 (by kernel_rfl) h1b
  obtain ⟨a2, rfl, rfl, rfl, w2⟩ := open_int Try.underlying26 (hval 2 26 v2 rfl rfl) h2
  clear hA0 hval0
  refine (walk a0a a0b lena0b capa0b za0b a1a a1b lena1b capa1b za1b a2 W wa0a wa0b wa1a wa1b w2).mono fun e W' ⟨he, bel⟩ => ?_
  subst he
  exact ⟨_, rfl, _, _, _, [], _, [], hW', trodAll_mk1 (shut_bool Try.underlying4 _), (trodAll_cons_mk (Below.trod laidOut (by kernel_rfl) (of_decide_eq_true (by kernel_rfl)) k0 bel lt0) (trodAll_cons_mk (Below.trod laidOut (by kernel_rfl) (of_decide_eq_true (by kernel_rfl)) k1 bel lt1) (trodAll_cons_mk (shut_int Try.underlying26 w2) trodAll_mk0))), rfl, bel.frame _, fun h => by cases h⟩
theorem over : Rows.fnBSDeepSumsRow.holds Try.pinned (OpenSpec.ofChange Rows.fnBSDeepSumsSpec) :=
  OpenClaim.holds_of_wide 7 Try.f7 rfl rfl rfl rfl rfl rfl rfl ⟨rfl, rfl, rfl, rfl, rfl⟩ rfl rfl rfl rfl rfl (by kernel_rfl) Try.func7 (by kernel_rfl)
    (of_decide_eq_true (by kernel_rfl)) (by unfold Func.isWrapper; first | (rw [if_pos (by decide +kernel)]; kernel_rfl) | (rw [if_neg (by decide +kernel)]; exact ⟨rfl, rfl⟩))
    (fun os started H enc _ => lifted os started H enc)
end FnBSDeepSums
/-- The statement. -/
theorem fnBSDeepSums_holds : Rows.FnBSDeepSumsSaid := FnBSDeepSums.over
#print axioms fnBSDeepSums_holds
end Go.Proofs.Ytopdlfecfgimpaa
