/-
  The statement of the law FnBSDeepComplement, out of its walk. The frame of this text is the kit's own way; it was printed by this session's own program row.py.
-/
import Derived.Test.YtopdlfecfgimpaaDoorRows
import Derived.WalkKit
import Derived.ProofKit
import Derived.LaidMore
import Derived.OpenShut
import Derived.Stop.Joined
import Derived.SevenTiedAt
import Derived.Test.YtopdlfecfgimpaaDoorTie
import Derived.Test.YtopdlfecfgimpaaDoorCards
import Derived.Test.YtopdlfecfgimpaaDoorRow
import Derived.Test.YtopdlfecfgimpaaDoorDLaws
namespace Go.Proofs.YtopdlfecfgimpaaDoor
open Go.ChangeShapes Go.WideShapes Go.ChangeAt Go.RowKit
set_option linter.unusedVariables false
namespace FnBSDeepComplement
theorem own : ownKnob Tryd.prog.godebug = none := by kernel_rfl
theorem laidOut : laidOutB Tryd.prog = true := by kernel_rfl
-- F: E.Tab
-- LAID: [("math/bits.deBruijn64tab", Rows.laid_math_bits_deBruijn64tab)]
theorem gTab : Tryd.prog.globalNamed "math/bits.deBruijn64tab" = some 0 := by kernel_rfl
theorem tTab : (Tryd.prog.globals[0]?).map (·.type) = some 74 := by kernel_rfl
theorem uTab : Tryd.prog.underlying 74 = some (.array 64 5) := by kernel_rfl
theorem u8Tab : Tryd.prog.underlying 5 = some (.int .u8) := by kernel_rfl
theorem door_met (os : Os) (args : Array Value) : laidMetH Tryd.prog [("math/bits.deBruijn64tab", Rows.laid_math_bits_deBruijn64tab)] ((World.doorLaid Tryd.prog 400 os).forCall (fun _ _ => 0) ⟨#[], args, []⟩).memory :=
  laidMetH_of_parts3 (fuel := 8) (laidMet_of_run' 8 (by kernel_rfl) (by kernel_rfl)) (by kernel_rfl) (by kernel_rfl)
theorem laidFacts {W : World} (h : laidMetH Tryd.prog [("math/bits.deBruijn64tab", Rows.laid_math_bits_deBruijn64tab)] W) : E.Tab W := by
  rw [MakeChecks.laidMetH_plain _ _ _ (by kernel_rfl)] at h
  obtain ⟨ps, ⟨g0, t0, cs0, f0, p0, q0, hg0, ht0, hv0, hd0, _, _⟩, _, _⟩ := h
  obtain rfl := Option.some.inj (gTab.symm.trans hg0)
  obtain rfl := Option.some.inj (tTab.symm.trans ht0)
  obtain ⟨xs, m1, rfl, hx1, hlen, hn, hel⟩ := DataW.trod_array uTab hd0
  have c1 : Tryd.prog.cellsOf 5 = 1 := by kernel_rfl
  have hl : (E.tab.map fun v : Nat => DataW.lit (H := Unit) (.int .u8 (v : Int))) = xs.map (·.1) := by
    have h1 := (Prod.mk.injEq _ _ _ _ ▸ hx1 : _ ∧ _).1
    exact DataW.agg.inj h1
  have hcell : ∀ i, i < 64 → W.cell? ⟨0, i, none⟩ = some (.int .u8 (E.tab.getD i 0 : Nat)) := by
    intro i hi
    have h := hel i hi
    obtain ⟨x, hx⟩ : ∃ x, xs[i]? = some x := ⟨xs[i], List.getElem?_eq_getElem (by omega)⟩
    rw [hx] at h
    obtain ⟨k, e1, e2, _⟩ := DataW.trod_int u8Tab h
    have h2 := congrArg (fun l => l[i]?) hl
    simp only [List.getElem?_map, hx, Option.map_some] at h2
    have ht : E.tab[i]? = some (E.tab.getD i 0) := by
      rw [List.getD_eq_getElem?_getD, List.getElem?_eq_getElem (show i < E.tab.length by exact hi)]; rfl
    rw [ht] at h2
    subst e2
    have hk : ((E.tab.getD i 0 : Nat) : Int) = k := by simpa using h2
    rw [hk]
    rw [World.var?_cell hg0 hv0 i]
    rw [c1, Nat.mul_one] at e1
    have h3 := congrArg (fun l => l[0]?) e1
    simp only [List.getElem?_take, List.getElem?_drop] at h3
    simpa using h3
  exact ⟨by have := World.block_lt_of_cell? W _ (hcell 0 (by decide)); exact this, hcell⟩

theorem walk (a0a : Int) (a0b : Option Addr) (lena0b capa0b : Nat) (za0b : List Int) (a1 : Int) (w : World) (wa0a : (Lit.int .u64 a0a).wf = true) (wa0b : E.IsRow .u64 w a0b lena0b capa0b za0b) (w1 : (Lit.int .u16 a1).wf = true) (hL : E.Tab w) :
    Calls Tryd.prog 6 #[.agg #[.int .u64 a0a, .slice a0b lena0b capa0b], .int .u16 a1] w fun e w' => e = .returned (.bool true) ∧ Below w.heap.size w w' := by
  have h0 := E.wf_u64 wa0a
  have h1 := E.wf_u16 w1
  obtain ⟨x, rfl⟩ := Int.eq_ofNat_of_zero_le h0.1
  obtain ⟨a, rfl⟩ := Int.eq_ofNat_of_zero_le h1.1
  exact E.F6_calls (E.F6_spec (by omega) (E.reads_of wa0b) (by omega) hL fun w' f => ⟨rfl, f.below fun _ h => h.elim⟩)
set_option maxRecDepth 100000 in
theorem lifted (os : Os) (started : os.Started) (H : Type) (enc : TypeId × Value → H) :
    ReturnsInHanded {} Tryd.checked os 6 .any (fun w args => (Rows.fnBSDeepComplementSpec.pre enc Tryd.prog Tryd.f6 [] false w args ∧ laidMetH Tryd.prog [("math/bits.deBruijn64tab", Rows.laid_math_bits_deBruijn64tab)] w) ∧ sizedMet enc Tryd.prog Tryd.f6 (OpenSpec.ofChange Rows.fnBSDeepComplementSpec) false w args)
      (Rows.fnBSDeepComplementSpec.post enc Tryd.prog Tryd.f6 false true false false) := by
  refine returnsInHanded_of_change_and (C := Tryd.checked) (X := fun w _ => laidMetH Tryd.prog [("math/bits.deBruijn64tab", Rows.laid_math_bits_deBruijn64tab)] w) (fun _ _ _ hh h => h.of_heap hh) own started (by kernel_rfl) Tryd.func6
    (ChangeSpec.witness_shaped (enc := enc) (C := Tryd.checked) (os := os) (X := fun w _ => laidMetH Tryd.prog [("math/bits.deBruijn64tab", Rows.laid_math_bits_deBruijn64tab)] w) false (World.doorLaid Tryd.prog 400 os) #[.agg #[.int .u64 0, .slice none 0 0], .int .u16 0] 8 rfl (World.shaped_of_RefB (by kernel_rfl) (by kernel_rfl)) (by kernel_rfl) (by kernel_rfl) (by kernel_rfl) (door_met os _)) ?_
  intro W base args ds gs before hval0 hW _ _ hL _
  have hval : ∀ (j : Nat) t v, Tryd.f6.params[j]? = some t → args[j]? = some v → Value.okWide Tryd.prog W .any base t v := hval0
  have hW' := hW
  obtain ⟨p, q, hA0, hV, rfl, hfz, hnd⟩ := hW
  have hA : DataW.TrodAll enc Tryd.prog W 0 (fun _ => true) true Tryd.f6.params.toList args.toList ds p := hA0
  rw [Tryd.params6] at hA hval
  obtain ⟨v0, vs0, d0, ds0, p0, q0, hargs, rfl, rfl, h0, r0⟩ := trodAll_cons hA
  obtain ⟨v1, vs1, d1, ds1, p1, q1, rfl, rfl, rfl, h1, r1⟩ := trodAll_cons r0
  obtain ⟨rfl, rfl, rfl⟩ := trodAll_nil r1
  obtain rfl : args = #[v0, v1] := by cases args; simp_all
  obtain ⟨rfl, rfl⟩ := trodVars_none hV
  have k0 := h0
  have lt0 : ∀ x ∈ p0, x.block < W.heap.size := by obtain ⟨m, hm⟩ := k0; exact DataW.trod_lt m _ _ _ hm
  obtain ⟨v0a, v0b, y0a, y0b, n0, rfl, rfl, rfl, h0a, h0b⟩ := Go.Joins.open_agg2 Tryd.underlying25 (by kernel_rfl) (by kernel_rfl) (hval 0 25 v0 rfl rfl) h0
  obtain ⟨a0a, rfl, wa0a⟩ := E.int_of Tryd.underlying22 h0a
  obtain ⟨a0b, lena0b, capa0b, za0b, rfl, wa0b⟩ := E.isRow_of Tryd.underlying23 Tryd.underlying22 (by kernel_rfl) h0b
  obtain ⟨a1, rfl, rfl, rfl, w1⟩ := open_int Tryd.underlying26 (hval 1 26 v1 rfl rfl) h1
  clear hA0 hval0
  refine (walk a0a a0b lena0b capa0b za0b a1 W wa0a wa0b w1 (laidFacts hL)).mono fun e W' ⟨he, bel⟩ => ?_
  subst he
  exact ⟨_, rfl, _, _, _, [], _, [], hW', trodAll_mk1 (shut_bool Tryd.underlying4 _), (trodAll_cons_mk (Below.trod laidOut (by kernel_rfl) (of_decide_eq_true (by kernel_rfl)) k0 bel lt0) (trodAll_cons_mk (shut_int Tryd.underlying26 w1) trodAll_mk0)), rfl, bel.frame _, fun h => by cases h⟩
theorem over : Rows.fnBSDeepComplementRow.holds Tryd.pinned (OpenSpec.ofChange Rows.fnBSDeepComplementSpec) :=
  OpenClaim.holds_of_wide 6 Tryd.f6 rfl rfl rfl rfl rfl rfl rfl ⟨rfl, rfl, rfl, rfl, rfl⟩ rfl rfl rfl rfl rfl (by kernel_rfl) Tryd.func6 (by kernel_rfl)
    (of_decide_eq_true (by kernel_rfl)) (by unfold Func.isWrapper; first | (rw [if_pos (by decide +kernel)]; kernel_rfl) | (rw [if_neg (by decide +kernel)]; exact ⟨rfl, rfl⟩))
    (fun os started H enc _ => lifted os started H enc)
end FnBSDeepComplement
/-- The row's statement. -/
theorem fnBSDeepComplement_row : Rows.FnBSDeepComplementSaid := FnBSDeepComplement.over
/-- The tied card. -/
theorem fnBSDeepComplement_holds : Rows.FnBSDeepComplementCardSaid :=
  Claim7.holds_tied_plain_at .later [] [.data] true (true, "47f1e9f0d72ac0a62a3b3ae082237b56186126dbc1a9e9e266d133919dabbba0") false
    fnBSDeepComplement_row (fun _ h => by cases h) (by kernel_rfl) (fun _ h => by cases h) fnBSDeepComplement_row_tie rfl ⟨rfl, rfl⟩ (by kernel_rfl) rfl
    (fun f fn hf hfn => by
      obtain rfl : f = 6 := Option.some.inj ((show Tryd.prog.funcNamed "given.example/pub-spokeshave/laws.FnBSDeepComplement" = some 6 by kernel_rfl).symm.trans hf) |>.symm
      obtain rfl : fn = Tryd.f6 := (Option.some.inj (Tryd.func6.symm.trans hfn)).symm
      exact ⟨by kernel_rfl, fun j t ht => by
        rw [Tryd.params6] at ht
        have hm : t ∈ [25, 26] := by simpa using Array.mem_of_getElem? ht
        have hall : ([25, 26].all fun u => !Tryd.prog.wantsStandIn u) = true := by kernel_rfl
        exact (show Tryd.prog.wantsStandIn t = false by simpa using List.all_eq_true.1 hall t hm)⟩)
    (by kernel_rfl)
#print axioms fnBSDeepComplement_holds
end Go.Proofs.YtopdlfecfgimpaaDoor
