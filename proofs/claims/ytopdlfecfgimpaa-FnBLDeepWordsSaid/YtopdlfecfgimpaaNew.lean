/-
  bitset.New, which defers a function that recovers: it makes a bitset of so many places, none of them set. With the small functions that it calls.
-/
import Derived.Test.YtopdlfecfgimpaaFnsA
import Derived.Test.YtopdlfecfgimpaaBlk
import Derived.Test.YtopdlfecfgimpaaBits
import Derived.Tactics
import Derived.Tactics2
import Derived.Defers
import Derived.Recover
import Derived.Laws.Pointers
namespace Go.Proofs.Ytopdlfecfgimpaa.E
open Go
set_option linter.unusedSimpArgs false
set_option linter.unusedVariables false

theorem F113_spec {k : Value → W} {w : World} (h : k (.int .u64 18446744073709551615) w) : F113 k w := h
theorem F92_spec {n : Nat} {k : Value → W} {w : World} (hn : n < 4294967296) (h : k (.int .i64 ((n + 63) / 64 : Nat)) w) : F92 k n w := by
  unfold F92
  refine F113_call (F113_spec (back_int ?_))
  have e : subI .u64 18446744073709551615 63 = 18446744073709551552 := by decide
  rw [e, decide_eq_false (by omega)]
  simp only [BIf_false, Bind_iff]
  have e2 : addI .u64 (n : Int) 63 = ((n + 63 : Nat) : Int) := by rw [addI_u64 (by omega) (by omega)]; omega
  rw [e2, shr6, wrap_i64 (by omega) (by omega)]
  exact h
theorem F86_spec {n : Nat} {k : Value → W} {w : World} (hn : n < 18446744073709551616) (h : k (.int .u64 (n % 64 : Nat)) w) : F86 k n w := by
  unfold F86; rw [and63 hn]; exact h

theorem F91_idle (p : Addr) (w : World) :
    CallsD Go.Proofs.Try.prog 91 #[.pointer (some p)] .returning w fun e u' w' => e = .returned (.tuple #[]) ∧ u' = .returning ∧ w' = w := by
  refine callsD_of_wpS Go.Proofs.Try.func91 rfl fun c₀ cs hu => ?_
  apply wpS_seq
  apply wpS_region
  simp [wpOpsS, go_sem, recoverD, hu, Go.Proofs.Try.ntmps91, Exit.thenS]
  apply wpS_seq
  apply wpS_region
  simp [wpOpsS, go_sem, Exit.thenS]
  refine wpS_cond (t := false) (by simp [Act.eval, Array.replicate]) ?_
  simp only [Bool.false_eq_true, if_false]
  refine wpS_of_wp (wp_skip ?_)
  cases c₀
  simp_all [bodyPostS, results, Go.Proofs.Try.results91]

theorem words_walk (n m : Nat) (hm : (n + 63) / 64 = m) (hn : n < 4294967296) (w : World) : Calls Go.Proofs.Try.prog 92 #[.int .u64 n] w fun e w' => e = .returned (.int .i64 m) ∧ w' = w :=
  F92_calls (F92_spec hn ⟨by rw [hm], rfl⟩)
theorem und43 : Go.Proofs.Try.prog.underlying 43 = some (.slice 77) := by kernel_rfl
theorem und23 : Go.Proofs.Try.prog.underlying 23 = some (.slice 22) := by kernel_rfl
theorem inf_of {P : Program} {t : TypeId} {z : Value} {b : Nat} (h : (P.info? t).map (fun i => (i.zero, i.size, i.bytes)) = some (some z, 1, b)) : ∃ i, P.info? t = some i ∧ i.zero = some z ∧ i.size = 1 ∧ i.bytes = b := by
  obtain ⟨i, hi, he⟩ := Option.map_eq_some_iff.1 h
  simp only [Prod.mk.injEq] at he
  exact ⟨i, hi, he.1, he.2.1, he.2.2⟩
theorem inf77 : ∃ i, Go.Proofs.Try.prog.info? 77 = some i ∧ i.zero = some (.int .u64 0) ∧ i.size = 1 ∧ i.bytes = 8 := inf_of (by kernel_rfl)
theorem inf22 : ∃ i, Go.Proofs.Try.prog.info? 22 = some i ∧ i.zero = some (.int .u64 0) ∧ i.size = 1 ∧ i.bytes = 8 := inf_of (by kernel_rfl)
theorem make77 (m : Nat) (hm : m < 4294967296) (w : World) : (Instr.makeSlice 43 (.int .i64 m) (.int .i64 m)).run Go.Proofs.Try.prog w = .ok (.slice (some ⟨w.heap.size, 0, none⟩) m m) (w.alloc (.cells (madeCells #[.int .u64 0] m) 77)) := by
  obtain ⟨i, hi, hz, h1, hb⟩ := inf77
  have := run_make (P := Go.Proofs.Try.prog) w 43 77 _ _ und43 hi hz .i64 .i64 m m (by omega) (Int.le_refl _) (by rw [hb]; omega) (by omega)
  simp only [h1, Int.toNat_natCast, Nat.mul_one] at this
  exact this
noncomputable def rest59 : Code := match Go.Proofs.Try.f59.body with | some (.seq _ (.seq _ r)) => r | _ => .skip
def F59 (k : Value → W) (p : Addr) (n : Int) : W :=
 CallT Go.Proofs.Try.prog 92 [.int .u64 n] (.s (.one (.int .i64))) fun x =>
 RawT Go.Proofs.Try.prog (Instr.makeSlice 43 (.int .i64 x) (.int .i64 x)) (.s (.one .slice)) fun sp sl sc =>
 New [.int .u64 n, .slice sp sl sc] 93 fun b =>
 Store1 p (.pointer (some ⟨b, 0, none⟩)) <|
 LoadT .ptr p fun q =>
 Store1 p (.pointer q) <|
 LoadT .ptr p fun q =>
 k (.pointer q)
def K59 (k : Value → W) : Ks :=
  { nrm := fun _ => bot, ret := fun e => resW Go.Proofs.Try.prog Go.Proofs.Try.f59.results.toList e fun vs => k (one? vs), ext := fun _ _ => bot }
set_option maxRecDepth 100000 in
theorem F59_eq (k : Value → W) (p : Addr) (n : Int) : comp Go.Proofs.Try.prog 11 [] rest59 (K59 k) (mkEnv [(0, .val (.int .u64 n)), (2, .val (.pointer (some p)))]) = F59 k p n := by kernel_rfl
set_option maxRecDepth 100000 in
theorem F59_calls {n : Int} {w : World} {R : Ending → World → Prop} (h : F59 (fun v w => R (.returned v) w) ⟨w.heap.size, 0, none⟩ n (w.alloc (.cells #[.pointer none] 64))) : Calls Go.Proofs.Try.prog 59 #[.int .u64 n] w R := by
  have hmf : ∀ (fn : Go.Fn) (first cap : Array Value) (w : World), (Instr.makeFunc fn first cap).run Go.Proofs.Try.prog w = .ok (.func fn first cap) w := fun _ _ _ _ => rfl
  have hc := (congrFun (F59_eq _ _ _) _).mpr h
  go_enter_defers Go.Proofs.Try.func59, Go.Proofs.Try.ntmps59
  apply wp_seq
  apply wp_region
  simp [wpOps, go_sem, Exit.then]
  refine Or.inl ?_
  apply wp_seq
  apply wp_region
  simp [wpOps, go_sem, hmf]
  refine Or.inl (Or.inl ?_)
  show Code.wp Go.Proofs.Try.prog rest59 _ _ _
  refine wp_mono (comp_sound (n := 11) (D := [{ target := Target.fn (Go.Fn.func 91) #[Value.pointer (some ⟨w.heap.size, 0, none⟩)], args := #[] }]) noNum follows [] rest59 (K59 fun v w => R (.returned v) w) _ _ _ hc ?_) fun ex a' w' q => ?_
  · refine ⟨rfl, rfl, fun t v hv => ?_⟩
    simp only [mkEnv] at hv
    cases h0 : Nat.beq t 0 with
    | true =>
      rw [h0] at hv
      have ht := Nat.eq_of_beq_eq_true h0
      subst ht
      cases hv
      rfl
    | false =>
      rw [h0] at hv
      cases h2 : Nat.beq t 2 with
      | true =>
        rw [h2] at hv
        have ht := Nat.eq_of_beq_eq_true h2
        subst ht
        cases hv
        rfl
      | false => rw [h2] at hv; cases hv
  · cases ex with
    | ret =>
      obtain ⟨e, ha, q⟩ := q
      obtain ⟨vs, h1, h2⟩ := run_results (fn := Go.Proofs.Try.f59) (k := fun vs => (fun v w => R (.returned v) w) (one? vs)) ha q
      show Leaves _ _ _ _ _ _ _
      rw [ha.defers]
      refine leaves_cons (f := 91) (args := #[.pointer (some ⟨w.heap.size, 0, none⟩)]) (by simp) (by simp [go_sem]) ?_
      refine (F91_idle _ _).mono ?_
      rintro e u' w'' ⟨rfl, rfl, rfl⟩
      exact ⟨_, h2, h1⟩
    | normal => obtain ⟨e, ha, q⟩ := q; exact False.elim q
    | exit i => obtain ⟨e, ha, q⟩ := q; exact False.elim q
    | _ => exact False.elim q
theorem F59_call {n : Int} {w : World} {g : Fn W (RTy.leaves (.s (.one .ptr)))} (h : F59 (fun v => Back (.s (.one .ptr)) g (.returned v)) ⟨w.heap.size, 0, none⟩ n (w.alloc (.cells #[.pointer none] 64))) : CallT Go.Proofs.Try.prog 59 [.int .u64 n] (.s (.one .ptr)) g w := F59_calls h
end Go.Proofs.Ytopdlfecfgimpaa.E
