/-
  The statement of the law FnYFDeepTurned, out of its walk. The frame of this text is the kit's own way; it was printed by this session's own program row.py.
-/
import Derived.Test.YtaacaokocamlcaaDoorRows
import Derived.WalkKit
import Derived.ProofKit
import Derived.LaidMore
import Derived.OpenShut
import Derived.OpenVars
import Derived.Stop.Joined
import Derived.SevenTiedAt
import Derived.Test.YtaacaokocamlcaaDoorTie
import Derived.Test.YtaacaokocamlcaaDoorCards
import Derived.Test.YtaacaokocamlcaaDoorRow
import Derived.Test.YtaacaokocamlcaaDoorLJ
namespace Go.Proofs.YtaacaokocamlcaaDoor
open Go.ChangeShapes Go.WideShapes Go.ChangeAt Go.RowKit
set_option linter.unusedVariables false
namespace FnYFDeepTurned
theorem own : ownKnob Tryd.prog.godebug = none := by kernel_rfl
theorem laidOut : laidOutB Tryd.prog = true := by kernel_rfl
-- F: E.Tabs
-- LAID: [("given.example/pub-spokeshave/pub/godatastructures/trie/xfast.masks", Rows.laid_given_example_pub_spokeshave_pub_godatastructures_trie_xfast_masks), ("given.example/pub-spokeshave/pub/godatastructures/trie/xfast.positions", Rows.laid_given_example_pub_spokeshave_pub_godatastructures_trie_xfast_positions)]
theorem gM : Tryd.prog.globalNamed "given.example/pub-spokeshave/pub/godatastructures/trie/xfast.masks" = some 1 := by kernel_rfl
theorem gP : Tryd.prog.globalNamed "given.example/pub-spokeshave/pub/godatastructures/trie/xfast.positions" = some 0 := by kernel_rfl
theorem tM : (Tryd.prog.globals[1]?).map (·.type) = some 100 := by kernel_rfl
theorem tP : (Tryd.prog.globals[0]?).map (·.type) = some 100 := by kernel_rfl
theorem uTab : Tryd.prog.underlying 100 = some (.array 64 22) := by kernel_rfl
theorem u22 : Tryd.prog.underlying 22 = some (.int .u64) := by kernel_rfl
theorem c22 : Tryd.prog.cellsOf 22 = 1 := by kernel_rfl
theorem door_met (os : Os) (args : Array Value) : laidMetH Tryd.prog [("given.example/pub-spokeshave/pub/godatastructures/trie/xfast.masks", Rows.laid_given_example_pub_spokeshave_pub_godatastructures_trie_xfast_masks), ("given.example/pub-spokeshave/pub/godatastructures/trie/xfast.positions", Rows.laid_given_example_pub_spokeshave_pub_godatastructures_trie_xfast_positions)] ((World.doorLaid Tryd.prog 400 os).forCall (fun _ _ => 0) ⟨#[], args, []⟩).memory :=
  laidMetH_of_parts3 (fuel := 8) (laidMet_of_run' 8 (by kernel_rfl) (by kernel_rfl)) (by kernel_rfl) (by kernel_rfl)
theorem laidFacts {W : World} (h : laidMetH Tryd.prog [("given.example/pub-spokeshave/pub/godatastructures/trie/xfast.masks", Rows.laid_given_example_pub_spokeshave_pub_godatastructures_trie_xfast_masks), ("given.example/pub-spokeshave/pub/godatastructures/trie/xfast.positions", Rows.laid_given_example_pub_spokeshave_pub_godatastructures_trie_xfast_positions)] W) : E.Tabs W := by
  rw [MakeChecks.laidMetH_plain _ _ _ (by kernel_rfl)] at h
  obtain ⟨ps, ⟨x0, y0, cs0, f0, p0, q0, hg0, ht0, hv0, hd0, ⟨x1, y1, cs1, f1, p1, q1, hg1, ht1, hv1, hd1, _, _⟩, _⟩, _, _⟩ := h
  obtain rfl := Option.some.inj (gM.symm.trans hg0)
  obtain rfl := Option.some.inj (tM.symm.trans ht0)
  obtain rfl := Option.some.inj (gP.symm.trans hg1)
  obtain rfl := Option.some.inj (tP.symm.trans ht1)
  have cellM : ∀ i, i < 64 → W.cell? ⟨1, i, none⟩ = some (.int .u64 ((E.mskT.getD i 0 : Nat) : Int)) := by
    obtain ⟨xs, m1, rfl, hx1, hlen, hn, hel⟩ := DataW.trod_array uTab hd0
    have hl : (E.mskT.map fun v : Nat => DataW.lit (H := Unit) (.int .u64 (v : Int))) = xs.map (·.1) := by
      have h1 := (Prod.mk.injEq _ _ _ _ ▸ hx1 : _ ∧ _).1
      exact DataW.agg.inj h1
    intro i hi
    have h := hel i hi
    obtain ⟨x, hx⟩ : ∃ x, xs[i]? = some x := ⟨xs[i], List.getElem?_eq_getElem (by omega)⟩
    rw [hx] at h
    obtain ⟨k, e1, e2, _⟩ := DataW.trod_int u22 h
    have h2 := congrArg (fun l => l[i]?) hl
    simp only [List.getElem?_map, hx, Option.map_some] at h2
    have ht : E.mskT[i]? = some (E.mskT.getD i 0) := by
      rw [List.getD_eq_getElem?_getD, List.getElem?_eq_getElem (show i < E.mskT.length by exact hi)]; rfl
    rw [ht] at h2
    subst e2
    have hk : ((E.mskT.getD i 0 : Nat) : Int) = k := by simpa using h2
    rw [hk]
    rw [World.var?_cell hg0 hv0 i]
    rw [c22, Nat.mul_one] at e1
    have h3 := congrArg (fun l => l[0]?) e1
    simp only [List.getElem?_take, List.getElem?_drop] at h3
    simpa using h3
  have cellP : ∀ i, i < 64 → W.cell? ⟨0, i, none⟩ = some (.int .u64 ((E.posT.getD i 0 : Nat) : Int)) := by
    obtain ⟨xs, m1, rfl, hx1, hlen, hn, hel⟩ := DataW.trod_array uTab hd1
    have hl : (E.posT.map fun v : Nat => DataW.lit (H := Unit) (.int .u64 (v : Int))) = xs.map (·.1) := by
      have h1 := (Prod.mk.injEq _ _ _ _ ▸ hx1 : _ ∧ _).1
      exact DataW.agg.inj h1
    intro i hi
    have h := hel i hi
    obtain ⟨x, hx⟩ : ∃ x, xs[i]? = some x := ⟨xs[i], List.getElem?_eq_getElem (by omega)⟩
    rw [hx] at h
    obtain ⟨k, e1, e2, _⟩ := DataW.trod_int u22 h
    have h2 := congrArg (fun l => l[i]?) hl
    simp only [List.getElem?_map, hx, Option.map_some] at h2
    have ht : E.posT[i]? = some (E.posT.getD i 0) := by
      rw [List.getD_eq_getElem?_getD, List.getElem?_eq_getElem (show i < E.posT.length by exact hi)]; rfl
    rw [ht] at h2
    subst e2
    have hk : ((E.posT.getD i 0 : Nat) : Int) = k := by simpa using h2
    rw [hk]
    rw [World.var?_cell hg1 hv1 i]
    rw [c22, Nat.mul_one] at e1
    have h3 := congrArg (fun l => l[0]?) e1
    simp only [List.getElem?_take, List.getElem?_drop] at h3
    simpa using h3
  refine ⟨World.block_lt_of_cell? W _ (cellM 0 (by decide)), fun i hi => ?_, fun i hi => ?_⟩
  · rw [cellP i hi, E.posT_get hi]
  · rw [cellM i hi, E.mskT_get hi]

theorem walk (a0 : Int) (a1 : Option Addr) (cap1 : Nat) (z1 : List E.Stp) (a2 : Int) (w : World) (w0 : (Lit.int .u8 a0).wf = true) (w1 : E.StA w a1 z1) (w2 : (Lit.int .u64 a2).wf = true) (hL : E.Tabs w) :
    Calls Tryd.prog 5 #[.int .u8 a0, .slice a1 z1.length cap1, .int .u64 a2] w fun e w' => e = .returned (.bool true) ∧ Below w.heap.size w w' := by
  have b2 := E.wf_u64 w2
  obtain ⟨x2, rfl⟩ := Int.eq_ofNat_of_zero_le b2.1
  exact E.F5_calls (E.F5_spec hL (E.wf_u8 w0).1 (by omega) w1 fun w' f => ⟨rfl, f.below fun _ h => h.elim⟩)
set_option maxRecDepth 100000 in
theorem lifted (os : Os) (started : os.Started) (H : Type) (enc : TypeId × Value → H) :
    ReturnsInHanded {} Tryd.checked os 5 .any (fun w args => (Rows.fnYFDeepTurnedSpec.pre enc Tryd.prog Tryd.f5 [] false w args ∧ laidMetH Tryd.prog [("given.example/pub-spokeshave/pub/godatastructures/trie/xfast.masks", Rows.laid_given_example_pub_spokeshave_pub_godatastructures_trie_xfast_masks), ("given.example/pub-spokeshave/pub/godatastructures/trie/xfast.positions", Rows.laid_given_example_pub_spokeshave_pub_godatastructures_trie_xfast_positions)] w) ∧ sizedMet enc Tryd.prog Tryd.f5 (OpenSpec.ofChange Rows.fnYFDeepTurnedSpec) false w args)
      (Rows.fnYFDeepTurnedSpec.post enc Tryd.prog Tryd.f5 false true false false) := by
  refine returnsInHanded_of_change_and (C := Tryd.checked) (X := fun w _ => laidMetH Tryd.prog [("given.example/pub-spokeshave/pub/godatastructures/trie/xfast.masks", Rows.laid_given_example_pub_spokeshave_pub_godatastructures_trie_xfast_masks), ("given.example/pub-spokeshave/pub/godatastructures/trie/xfast.positions", Rows.laid_given_example_pub_spokeshave_pub_godatastructures_trie_xfast_positions)] w) (fun _ _ _ hh h => h.of_heap hh) own started (by kernel_rfl) Tryd.func5
    (ChangeSpec.witness_shaped (enc := enc) (C := Tryd.checked) (os := os) (X := fun w _ => laidMetH Tryd.prog [("given.example/pub-spokeshave/pub/godatastructures/trie/xfast.masks", Rows.laid_given_example_pub_spokeshave_pub_godatastructures_trie_xfast_masks), ("given.example/pub-spokeshave/pub/godatastructures/trie/xfast.positions", Rows.laid_given_example_pub_spokeshave_pub_godatastructures_trie_xfast_positions)] w) false (World.doorLaid Tryd.prog 400 os) #[.int .u8 0, .slice none 0 0, .int .u64 0] 8 rfl (World.shaped_of_RefB (by kernel_rfl) (by kernel_rfl)) (by kernel_rfl) (by kernel_rfl) (by kernel_rfl) (door_met os _)) ?_
  intro W base args ds gs before hval0 hW _ _ hL _
  have hval : ∀ (j : Nat) t v, Tryd.f5.params[j]? = some t → args[j]? = some v → Value.okWide Tryd.prog W .any base t v := hval0
  have hW' := hW
  obtain ⟨p, q, hA0, hV, rfl, hfz, hnd⟩ := hW
  have hA : DataW.TrodAll enc Tryd.prog W 0 (fun _ => true) true Tryd.f5.params.toList args.toList ds p := hA0
  rw [Tryd.params5] at hA hval
  obtain ⟨v0, vs0, d0, ds0, p0, q0, hargs, rfl, rfl, h0, r0⟩ := trodAll_cons hA
  obtain ⟨v1, vs1, d1, ds1, p1, q1, rfl, rfl, rfl, h1, r1⟩ := trodAll_cons r0
  obtain ⟨v2, vs2, d2, ds2, p2, q2, rfl, rfl, rfl, h2, r2⟩ := trodAll_cons r1
  obtain ⟨rfl, rfl, rfl⟩ := trodAll_nil r2
  obtain rfl : args = #[v0, v1, v2] := by cases args; simp_all
  have hV2 : DataW.TrodVars enc Tryd.prog W (fun _ => true) ["given.example/pub-spokeshave/pub/godatastructures/trie/xfast.positions", "given.example/pub-spokeshave/pub/godatastructures/trie/xfast.masks"] gs q := hV
  obtain ⟨e0, e1, hgs⟩ : ∃ e0 e1, gs = [e0, e1] := by
    obtain ⟨_, _, _, _, e0, _, _, _, _, _, e1, _, h, _⟩ := trodVars_two hV2
    exact ⟨e0, e1, h⟩
  subst hgs
  obtain ⟨a0, rfl, rfl, rfl, w0⟩ := open_int Tryd.underlying5 (hval 0 5 v0 rfl rfl) h0
  have k1 := h1
  have lt1 : ∀ x ∈ p1, x.block < W.heap.size := by obtain ⟨m, hm⟩ := k1; exact DataW.trod_lt m _ _ _ hm
  obtain ⟨a1, cap1, z1, rfl, w1⟩ := E.steps_of (hval 1 25 v1 rfl rfl) h1
  obtain ⟨a2, rfl, rfl, rfl, w2⟩ := open_int Tryd.underlying22 (hval 2 22 v2 rfl rfl) h2
  clear hA0 hval0
  refine (walk a0 a1 cap1 z1 a2 W w0 w1 w2 (laidFacts hL)).mono fun e W' ⟨he, bel⟩ => ?_
  subst he
  exact ⟨_, rfl, _, _, _, [], _, _, hW', trodAll_mk1 (shut_bool Tryd.underlying4 _), (trodAll_cons_mk (shut_int Tryd.underlying5 w0) (trodAll_cons_mk (Below.trod laidOut (by kernel_rfl) (of_decide_eq_true (by kernel_rfl)) k1 bel lt1) (trodAll_cons_mk (shut_int Tryd.underlying22 w2) trodAll_mk0))), Below.trodVars laidOut bel (by kernel_rfl) hV2, bel.frame _, fun h => by cases h⟩
theorem over : Rows.fnYFDeepTurnedRow.holds Tryd.pinned (OpenSpec.ofChange Rows.fnYFDeepTurnedSpec) :=
  OpenClaim.holds_of_wide 5 Tryd.f5 rfl rfl rfl rfl rfl rfl rfl ⟨rfl, rfl, rfl, rfl, rfl⟩ rfl rfl rfl rfl rfl (by kernel_rfl) Tryd.func5 (by kernel_rfl)
    (of_decide_eq_true (by kernel_rfl)) (by unfold Func.isWrapper; first | (rw [if_pos (by decide +kernel)]; kernel_rfl) | (rw [if_neg (by decide +kernel)]; exact ⟨rfl, rfl⟩))
    (fun os started H enc _ => lifted os started H enc)
end FnYFDeepTurned
/-- The row's statement. -/
theorem fnYFDeepTurned_row : Rows.FnYFDeepTurnedSaid := FnYFDeepTurned.over
/-- The tied card. -/
theorem fnYFDeepTurned_holds : Rows.FnYFDeepTurnedCardSaid :=
  Claim7.holds_tied_plain_at .later [] [.data, .data] true (true, "1a7c6cbe9b4c9d793d82657697785afe7ce9b8eab8bd1f1114af38ce3002a9ff") true
    fnYFDeepTurned_row (fun _ h => by cases h) (by kernel_rfl) (fun _ h => by cases h) fnYFDeepTurned_row_tie rfl ⟨rfl, rfl⟩ (by kernel_rfl) rfl
    (fun f fn hf hfn => by
      obtain rfl : f = 5 := Option.some.inj ((show Tryd.prog.funcNamed "given.example/pub-spokeshave/laws.FnYFDeepTurned" = some 5 by kernel_rfl).symm.trans hf) |>.symm
      obtain rfl : fn = Tryd.f5 := (Option.some.inj (Tryd.func5.symm.trans hfn)).symm
      exact ⟨by kernel_rfl, fun j t ht => by
        rw [Tryd.params5] at ht
        have hm : t ∈ [5, 25, 22] := by simpa using Array.mem_of_getElem? ht
        have hall : ([5, 25, 22].all fun u => !Tryd.prog.wantsStandIn u) = true := by kernel_rfl
        exact (show Tryd.prog.wantsStandIn t = false by simpa using List.all_eq_true.1 hall t hm)⟩)
    (by kernel_rfl)
#print axioms fnYFDeepTurned_holds
end Go.Proofs.YtaacaokocamlcaaDoor
