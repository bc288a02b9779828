/-
  The tied card of the law FnPQMore: the row's statement out of its walk, and the card by the given tie. The frame is the kit's own way. The three errors of the package start as the program's text lays them.
-/
import Derived.Test.YtbbidbjefdaagaaDoorRows
import Derived.WalkKit
import Derived.ProofKit
import Derived.LaidMore
import Derived.OpenShut
import Derived.Stop.Joined
import Derived.SevenTiedAt
import Derived.ChangeSame
import Derived.ChangeVars
import Derived.JoinedOf
import Derived.RowKit
import Derived.RowKitTokens
import Derived.LaidLaws
import Derived.Stop.LaidErr
import Derived.Stop.ErrReads
import Derived.Lib.SmallJoins
import Derived.Test.YtbbidbjefdaagaaDoorTie
import Derived.Test.YtbbidbjefdaagaaDoorCards
import Derived.Test.YtbbidbjefdaagaaDoorRow
import Derived.Test.YtbbidbjefdaagaaDoorPqC
namespace Go.Proofs.YtbbidbjefdaagaaDoor
open Go.ChangeShapes Go.WideShapes Go.ChangeAt Go.RowKit
set_option linter.unusedVariables false
set_option maxRecDepth 100000
namespace FnPQMore
theorem own : ownKnob Tryd.prog.godebug = none := by kernel_rfl
theorem laidOut : laidOutB Tryd.prog = true := by kernel_rfl
abbrev laidL {H : Type} : List (String × DataW H) := [("given.example/pub-spokeshave/pub/godatastructures/queue.ErrDisposed", Rows.laid_given_example_pub_spokeshave_pub_godatastructures_queue_ErrDisposed), ("given.example/pub-spokeshave/pub/godatastructures/queue.ErrTimeout", Rows.laid_given_example_pub_spokeshave_pub_godatastructures_queue_ErrTimeout), ("given.example/pub-spokeshave/pub/godatastructures/queue.ErrEmptyQueue", Rows.laid_given_example_pub_spokeshave_pub_godatastructures_queue_ErrEmptyQueue)]
theorem g0 : Tryd.prog.globalNamed "given.example/pub-spokeshave/pub/godatastructures/queue.ErrDisposed" = some 0 := by kernel_rfl
theorem g1 : Tryd.prog.globalNamed "given.example/pub-spokeshave/pub/godatastructures/queue.ErrTimeout" = some 1 := by kernel_rfl
theorem g2 : Tryd.prog.globalNamed "given.example/pub-spokeshave/pub/godatastructures/queue.ErrEmptyQueue" = some 2 := by kernel_rfl
theorem t0 : (Tryd.prog.globals[0]?).map (·.type) = some 75 := by kernel_rfl
theorem t1 : (Tryd.prog.globals[1]?).map (·.type) = some 75 := by kernel_rfl
theorem t2 : (Tryd.prog.globals[2]?).map (·.type) = some 75 := by kernel_rfl
theorem c120 : Tryd.prog.cellsOf 120 = 1 := by kernel_rfl
theorem c9 : Tryd.prog.cellsOf 9 = 1 := by kernel_rfl
theorem star : "*" ++ "errors.errorString" = "*errors.errorString" := by decide
theorem row103 (u : TypeId) (h : Tryd.prog.typeName? 3 u = some "*errors.errorString") : u = 103 :=
  typeName_ptr_named (nm := "errors.errorString") (by rw [star]; kernel_rfl) (by kernel_rfl) (by decide) u (by rw [star]; exact h)
theorem door_met (os : Os) (args : Array Value) : laidMetH Tryd.prog laidL ((World.doorLaid Tryd.prog 400 os).forCall (fun _ _ => 0) ⟨#[], args, []⟩).memory :=
  laidMetH_of_parts3 (fuel := 8) (laidMet_of_run' 8 (by kernel_rfl) (by kernel_rfl)) (by kernel_rfl) (by kernel_rfl)
/-- What the laid errors are. -/
theorem laidFacts {W : World} (h : laidMetH Tryd.prog laidL W) :
    ∃ (a0 a1 a2 : Addr), W.var? Tryd.prog "given.example/pub-spokeshave/pub/godatastructures/queue.ErrDisposed" = some #[.iface 103 (.pointer (some a0))] ∧ W.var? Tryd.prog "given.example/pub-spokeshave/pub/godatastructures/queue.ErrTimeout" = some #[.iface 103 (.pointer (some a1))] ∧
      W.var? Tryd.prog "given.example/pub-spokeshave/pub/godatastructures/queue.ErrEmptyQueue" = some #[.iface 103 (.pointer (some a2))] ∧ 2 < W.heap.size := by
  rw [MakeChecks.laidMetH_plain _ _ _ (by kernel_rfl)] at h
  obtain ⟨ps, ⟨x0, y0, cs0, f0, p0, q0, hg0, ht0, hv0, hd0, ⟨x1, y1, cs1, f1, p1, q1, hg1, ht1, hv1, hd1, ⟨x2, y2, cs2, f2, p2, q2, hg2, ht2, hv2, hd2, hq2, e2⟩, e1⟩, e0⟩, hnd, hrows⟩ := h
  obtain rfl := Option.some.inj (g0.symm.trans hg0)
  obtain rfl := Option.some.inj (g1.symm.trans hg1)
  obtain rfl := Option.some.inj (g2.symm.trans hg2)
  obtain rfl := Option.some.inj (t0.symm.trans ht0)
  obtain rfl := Option.some.inj (t1.symm.trans ht1)
  obtain rfl := Option.some.inj (t2.symm.trans ht2)
  have hq2' : q2 = [] := hq2
  subst hq2'
  subst e2
  subst e1
  subst e0
  obtain ⟨l0⟩ := cs0
  obtain ⟨l1⟩ := cs1
  obtain ⟨l2⟩ := cs2
  have ok0 : ∀ u v, l0 = [.iface u v] → Value.okWide Tryd.prog W .any 0 u v := fun u v e => by
    subst e
    exact (hrows 0 0 (by simp [MemPlace.row])).2 u v (by simpa using World.var?_cell hg0 hv0 0)
  have ok1 : ∀ u v, l1 = [.iface u v] → Value.okWide Tryd.prog W .any 0 u v := fun u v e => by
    subst e
    exact (hrows 1 0 (by simp [MemPlace.row])).2 u v (by simpa using World.var?_cell hg1 hv1 0)
  have ok2 : ∀ u v, l2 = [.iface u v] → Value.okWide Tryd.prog W .any 0 u v := fun u v e => by
    subst e
    exact (hrows 2 0 (by simp [MemPlace.row])).2 u v (by simpa using World.var?_cell hg2 hv2 0)
  obtain ⟨a0, s0, rfl, hc0, hs0, hz0, rfl⟩ := errorString_of_trod Tryd.underlying75 row103 Tryd.underlying103 Tryd.underlying120 rfl rfl Tryd.underlying9 c120 c9 hd0 ok0
  obtain ⟨a1, s1, rfl, hc1, hs1, hz1, rfl⟩ := errorString_of_trod Tryd.underlying75 row103 Tryd.underlying103 Tryd.underlying120 rfl rfl Tryd.underlying9 c120 c9 hd1 ok1
  obtain ⟨a2, s2, rfl, hc2, hs2, hz2, rfl⟩ := errorString_of_trod Tryd.underlying75 row103 Tryd.underlying103 Tryd.underlying120 rfl rfl Tryd.underlying9 c120 c9 hd2 ok2
  have k2 : W.cell? ⟨2, 0, none⟩ = some (.iface 103 (.pointer (some a2))) := by simpa using World.var?_cell hg2 hv2 0
  exact ⟨a0, a1, a2, hv0, hv1, hv2, World.block_lt_of_cell? W _ k2⟩
theorem vars_read {H : Type} (enc : TypeId × Value → H) {W : World} {x0 x1 x2 : Value} (h0 : W.var? Tryd.prog "given.example/pub-spokeshave/pub/godatastructures/queue.ErrDisposed" = some #[x0]) (h1 : W.var? Tryd.prog "given.example/pub-spokeshave/pub/godatastructures/queue.ErrTimeout" = some #[x1]) (h2 : W.var? Tryd.prog "given.example/pub-spokeshave/pub/godatastructures/queue.ErrEmptyQueue" = some #[x2])
    (i0 : IsIface x0) (i1 : IsIface x1) (i2 : IsIface x2) (sp : Nat → Bool) :
    DataW.TrodVars enc Tryd.prog W sp ["given.example/pub-spokeshave/pub/godatastructures/queue.ErrDisposed", "given.example/pub-spokeshave/pub/godatastructures/queue.ErrTimeout", "given.example/pub-spokeshave/pub/godatastructures/queue.ErrEmptyQueue"] [tok enc x0, tok enc x1, tok enc x2] [.cell 0 0, .cell 1 0, .cell 2 0] :=
  ⟨0, 75, #[x0], 1, [], [.cell 1 0, .cell 2 0], g0, t0, h0, trod_held Tryd.underlying75 i0 0, ⟨1, 75, #[x1], 1, [], [.cell 2 0], g1, t1, h1, trod_held Tryd.underlying75 i1 0, ⟨2, 75, #[x2], 1, [], [], g2, t2, h2, trod_held Tryd.underlying75 i2 0, rfl, rfl⟩, rfl⟩, rfl⟩
theorem var_kept {W W' : World} {n : String} {g : Nat} {cs : Array Value} (hg : Tryd.prog.globalNamed n = some g) (hl : g < W.heap.size) (bel : Below W.heap.size W W') (h : W.var? Tryd.prog n = some cs) : W'.var? Tryd.prog n = some cs := by
  unfold World.var? at h ⊢
  rw [hg] at h ⊢
  simp only [Option.bind_some] at h ⊢
  rw [bel.block g hl]; exact h
set_option maxRecDepth 100000 in
theorem lifted (os : Os) (started : os.Started) (H : Type) (enc : TypeId × Value → H) :
    ReturnsInHanded {} Tryd.checked os 3 .any (fun w args => (Rows.fnPQMoreSpec.pre enc Tryd.prog Tryd.f3 [] false w args ∧ laidMetH Tryd.prog laidL w) ∧ sizedMet enc Tryd.prog Tryd.f3 (OpenSpec.ofChange Rows.fnPQMoreSpec) false w args)
      (Rows.fnPQMoreSpec.post enc Tryd.prog Tryd.f3 false true false false) := by
  refine returnsInHanded_of_change_and (C := Tryd.checked) (X := fun w _ => laidMetH Tryd.prog laidL w) (fun _ _ _ hh h => h.of_heap hh) own started (by kernel_rfl) Tryd.func3
    (ChangeSpec.witness_shaped (enc := enc) (C := Tryd.checked) (os := os) (X := fun w _ => laidMetH Tryd.prog laidL w) false (World.doorLaid Tryd.prog 400 os) #[.slice none 0 0, .int .i16 0, .int .u8 0] 8 rfl (World.shaped_of_RefB (by kernel_rfl) (by kernel_rfl)) (by kernel_rfl) (by kernel_rfl) (by kernel_rfl) (door_met os _)) ?_
  intro W base args ds gs before hval0 hW _ _ hL _
  have hval : ∀ (j : Nat) t v, Tryd.f3.params[j]? = some t → args[j]? = some v → Value.okWide Tryd.prog W .any base t v := hval0
  have hW' := hW
  obtain ⟨p, q, hA0, hV0, rfl, hfz, hnd⟩ := hW
  have hA : DataW.TrodAll enc Tryd.prog W 0 (fun _ => true) true Tryd.f3.params.toList args.toList ds p := hA0
  have hV : DataW.TrodVars enc Tryd.prog W (fun _ => true) ["given.example/pub-spokeshave/pub/godatastructures/queue.ErrDisposed", "given.example/pub-spokeshave/pub/godatastructures/queue.ErrTimeout", "given.example/pub-spokeshave/pub/godatastructures/queue.ErrEmptyQueue"] gs q := hV0
  rw [Tryd.params3] at hA hval
  obtain ⟨v0, vs0, d0, ds0, p0, q0, hargs, rfl, rfl, h0, r0⟩ := trodAll_cons hA
  obtain ⟨v1, vs1, d1, ds1, p1, q1, rfl, rfl, rfl, h1, r1⟩ := trodAll_cons r0
  obtain ⟨v2, vs2, d2, ds2, p2, q2, rfl, rfl, rfl, h2, r2⟩ := trodAll_cons r1
  obtain ⟨rfl, rfl, rfl⟩ := trodAll_nil r2
  obtain rfl : args = #[v0, v1, v2] := by cases args; simp_all
  have k0 := h0
  have lt0 : ∀ x ∈ p0, x.block < W.heap.size := by obtain ⟨m, hm⟩ := k0; exact DataW.trod_lt m _ _ _ hm
  obtain ⟨a0, len0, cap0, rfl⟩ := okWide_slice Tryd.underlying22 (hval 0 22 v0 rfl rfl)
  obtain ⟨m0, hm0⟩ := h0
  obtain ⟨_, _, _, z0, e0, w0⟩ := E.isRow_of Tryd.underlying22 Tryd.underlying23 (by kernel_rfl) hm0
  cases e0
  obtain ⟨a1, rfl, rfl, rfl, w1⟩ := open_int Tryd.underlying23 (hval 1 23 v1 rfl rfl) h1
  obtain ⟨a2, rfl, rfl, rfl, w2⟩ := open_int Tryd.underlying5 (hval 2 5 v2 rfl rfl) h2
  obtain ⟨a0', a1', a2', hv0, hv1, hv2, l3⟩ := laidFacts hL
  obtain ⟨rfl, rfl⟩ := hV.unique (vars_read enc hv0 hv1 hv2 trivial trivial trivial _)
  clear hA0 hV0 hval0
  obtain ⟨x1, x2, x3⟩ := E.shorts_of w0
  refine (E.F3_calls (R := fun e W' => e = .returned (.bool true) ∧ Below W.heap.size W W') (E.F3_spec x1 x2 x3 (E.wf_i16 w1) (E.wf_u8 w2) fun w' f => ⟨rfl, f.below fun _ h => h.elim⟩)).mono fun e W' ⟨he, bel⟩ => ?_
  subst he
  exact ⟨_, rfl, _, _, _, [], _, [.cell 0 0, .cell 1 0, .cell 2 0], hW', trodAll_mk1 (shut_bool Tryd.underlying4 _), (trodAll_cons_mk (Below.trod laidOut (by kernel_rfl) (of_decide_eq_true (by kernel_rfl)) k0 bel lt0) (trodAll_cons_mk (shut_int Tryd.underlying23 w1) (trodAll_cons_mk (shut_int Tryd.underlying5 w2) trodAll_mk0))),
    vars_read enc (var_kept g0 (by omega) bel hv0) (var_kept g1 (by omega) bel hv1) (var_kept g2 (by omega) bel hv2) trivial trivial trivial _, bel.frame _, fun h => by cases h⟩
theorem over : Rows.fnPQMoreRow.holds Tryd.pinned (OpenSpec.ofChange Rows.fnPQMoreSpec) :=
  OpenClaim.holds_of_wide 3 Tryd.f3 rfl rfl rfl rfl rfl rfl rfl ⟨rfl, rfl, rfl, rfl, rfl⟩ rfl rfl rfl rfl rfl (by kernel_rfl) Tryd.func3 (by kernel_rfl)
    (of_decide_eq_true (by kernel_rfl)) (by unfold Func.isWrapper; first | (rw [if_pos (by decide +kernel)]; kernel_rfl) | (rw [if_neg (by decide +kernel)]; exact ⟨rfl, rfl⟩))
    (fun os started H enc _ => lifted os started H enc)
end FnPQMore
/-- The row's statement. -/
theorem fnPQMore_row : Rows.FnPQMoreSaid := FnPQMore.over
/-- The tied card. -/
theorem fnPQMore_holds : Rows.FnPQMoreCardSaid :=
  Claim7.holds_tied_plain_at .later [] [.sentinel, .sentinel, .sentinel] true (true, "c286217adc5194a7dc7d20e9dbe605878c729b7e6007c5c488ffc8d25f5ed491") true
    fnPQMore_row (fun _ h => by cases h) (by kernel_rfl) (fun _ h => by cases h) fnPQMore_row_tie rfl ⟨rfl, rfl⟩ (by kernel_rfl) rfl
    (fun f fn hf hfn => by
      obtain rfl : f = 3 := Option.some.inj ((show Tryd.prog.funcNamed "given.example/pub-spokeshave/laws.FnPQMore" = some 3 by kernel_rfl).symm.trans hf) |>.symm
      obtain rfl : fn = Tryd.f3 := (Option.some.inj (Tryd.func3.symm.trans hfn)).symm
      exact ⟨by kernel_rfl, fun j t ht => by
        rw [Tryd.params3] at ht
        have hm : t ∈ [22, 23, 5] := by simpa using Array.mem_of_getElem? ht
        have hall : ([22, 23, 5].all fun u => !Tryd.prog.wantsStandIn u) = true := by kernel_rfl
        exact (show Tryd.prog.wantsStandIn t = false by simpa using List.all_eq_true.1 hall t hm)⟩)
    (by kernel_rfl)
#print axioms fnPQMore_holds
end Go.Proofs.YtbbidbjefdaagaaDoor
