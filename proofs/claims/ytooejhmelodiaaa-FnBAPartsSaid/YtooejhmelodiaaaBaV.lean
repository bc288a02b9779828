/-
  A step on bit arrays: what is behind its deferred function.
-/
import Derived.Test.YtooejhmelodiaaaFnsD
import Derived.Test.YtooejhmelodiaaaBaT
import Derived.Tactics
import Derived.Tactics2
import Derived.Defers
import Derived.Recover
import Derived.Laws.Pointers
namespace Go.Proofs.Ytooejhmelodiaaa.E
open Go
set_option linter.unusedSimpArgs false
set_option linter.unusedVariables false

theorem F13_idle (p : Addr) (w : World) :
    CallsD Go.Proofs.Try.prog 13 #[.pointer (some p)] .returning w fun e u' w' => e = .returned (.tuple #[]) ∧ u' = .returning ∧ w' = w := by
  refine callsD_of_wpS Go.Proofs.Try.func13 rfl fun c₀ cs hu => ?_
  apply wpS_seq
  apply wpS_region
  simp [wpOpsS, go_sem, recoverD, hu, Go.Proofs.Try.ntmps13, Exit.thenS]
  refine wpS_cond (t := false) (by simp [Act.eval, Array.replicate]) ?_
  simp only [Bool.false_eq_true, if_false]
  refine wpS_of_wp (wp_skip ?_)
  cases c₀
  simp_all [bodyPostS, results, Go.Proofs.Try.results13]
set_option maxRecDepth 100000 in
set_option maxHeartbeats 4000000 in
theorem F12_calls {a : Option Addr} {o n b m : Int} {u : Int} {f : Bool} {w : World} {R : Ending → World → Prop}
    (h : F12 (fun v w => R (.returned v) w) a ⟨w.heap.size, 0, none⟩ ⟨w.heap.size + 1, 0, none⟩ ((w.alloc (.cells #[.int .i64 o, .int .i64 n, .int .i64 b, .int .u64 u, .int .i64 m, .bool f] 31)).alloc (.cells #[.bool false, .int .u64 0, .slice none 0 0, .bool false] 35))) :
    Calls Go.Proofs.Try.prog 12 #[.pointer a, .agg #[.int .i64 o, .int .i64 n, .int .i64 b, .int .u64 u, .int .i64 m, .bool f]] w R := by
  have hmf : ∀ (fn : Go.Fn) (first cap : Array Value) (w : World), (Instr.makeFunc fn first cap).run Go.Proofs.Try.prog w = .ok (.func fn first cap) w := fun _ _ _ _ => rfl
  have hc := (congrFun (F12_eq _ _ _ _) _).mpr h
  go_enter_defers Go.Proofs.Try.func12, Go.Proofs.Try.ntmps12
  apply wp_seq
  apply wp_region
  simp [wpOps, go_sem, Exit.then]
  refine Or.inl (Or.inl ?_)
  apply wp_seq
  apply wp_region
  simp [wpOps, go_sem, hmf]
  refine Or.inl (Or.inl ?_)
  show Code.wp Go.Proofs.Try.prog rest12 _ _ _
  refine wp_mono (comp_sound (n := 133) (D := [{ target := Target.fn (Go.Fn.func 13) #[Value.pointer (some ⟨w.heap.size + 1, 0, none⟩)], args := #[] }]) noNum follows [(37, [(4, .addr), (8, .any)])] rest12 (K12 fun v w => R (.returned v) w) _ _ _ hc ?_) fun ex a' w' q => ?_
  · refine ⟨rfl, rfl, fun t v hv => ?_⟩
    simp only [mkEnv] at hv
    cases h0 : Nat.beq t 0 with
    | true =>
      rw [h0] at hv
      have ht := Nat.eq_of_beq_eq_true h0
      subst ht
      cases hv
      rfl
    | false =>
      rw [h0] at hv
      cases h2 : Nat.beq t 3 with
      | true =>
        rw [h2] at hv
        have ht := Nat.eq_of_beq_eq_true h2
        subst ht
        cases hv
        rfl
      | false =>
        rw [h2] at hv
        cases h3 : Nat.beq t 4 with
        | true =>
          rw [h3] at hv
          have ht := Nat.eq_of_beq_eq_true h3
          subst ht
          cases hv
          rfl
        | false => rw [h3] at hv; cases hv
  · cases ex with
    | ret =>
      obtain ⟨e, ha, q⟩ := q
      obtain ⟨vs, h1, h2⟩ := run_results (fn := Go.Proofs.Try.f12) (k := fun vs => (fun v w => R (.returned v) w) (one? vs)) ha q
      show Leaves _ _ _ _ _ _ _
      rw [ha.defers]
      refine leaves_cons (f := 13) (args := #[.pointer (some ⟨w.heap.size + 1, 0, none⟩)]) (by simp) (by simp [go_sem]) ?_
      refine (F13_idle _ _).mono ?_
      rintro e u' w'' ⟨rfl, rfl, rfl⟩
      exact ⟨_, h2, h1⟩
    | normal => obtain ⟨e, ha, q⟩ := q; exact False.elim q
    | exit i => obtain ⟨e, ha, q⟩ := q; exact False.elim q
    | _ => exact False.elim q
end Go.Proofs.Ytooejhmelodiaaa.E
