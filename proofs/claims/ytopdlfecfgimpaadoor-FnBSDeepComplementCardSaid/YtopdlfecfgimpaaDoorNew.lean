/-
  bitset.New, which defers a function that recovers: it makes a bitset of so many places, none of them set. With the small functions that it calls.
-/
import Derived.Test.YtopdlfecfgimpaaDoorFnsA
import Derived.Test.YtopdlfecfgimpaaDoorBlk
import Derived.Test.YtopdlfecfgimpaaDoorBits
import Derived.Tactics
import Derived.Tactics2
import Derived.Defers
import Derived.Recover
import Derived.Laws.Pointers
namespace Go.Proofs.YtopdlfecfgimpaaDoor.E
open Go
set_option linter.unusedSimpArgs false
set_option linter.unusedVariables false

theorem F64_spec {k : Value → W} {w : World} (h : k (.int .u64 18446744073709551615) w) : F64 k w := h
theorem F63_spec {n : Nat} {k : Value → W} {w : World} (hn : n < 4294967296) (h : k (.int .i64 ((n + 63) / 64 : Nat)) w) : F63 k n w := by
  unfold F63
  refine F64_call (F64_spec (back_int ?_))
  have e : subI .u64 18446744073709551615 63 = 18446744073709551552 := by decide
  rw [e, decide_eq_false (by omega)]
  simp only [BIf_false, Bind_iff]
  have e2 : addI .u64 (n : Int) 63 = ((n + 63 : Nat) : Int) := by rw [addI_u64 (by omega) (by omega)]; omega
  rw [e2, shr6, wrap_i64 (by omega) (by omega)]
  exact h
theorem F52_spec {n : Nat} {k : Value → W} {w : World} (hn : n < 18446744073709551616) (h : k (.int .u64 (n % 64 : Nat)) w) : F52 k n w := by
  unfold F52; rw [and63 hn]; exact h

theorem F62_idle (p : Addr) (w : World) :
    CallsD Go.Proofs.Tryd.prog 62 #[.pointer (some p)] .returning w fun e u' w' => e = .returned (.tuple #[]) ∧ u' = .returning ∧ w' = w := by
  refine callsD_of_wpS Go.Proofs.Tryd.func62 rfl fun c₀ cs hu => ?_
  apply wpS_seq
  apply wpS_region
  simp [wpOpsS, go_sem, recoverD, hu, Go.Proofs.Tryd.ntmps62, Exit.thenS]
  apply wpS_seq
  apply wpS_region
  simp [wpOpsS, go_sem, Exit.thenS]
  refine wpS_cond (t := false) (by simp [Act.eval, Array.replicate]) ?_
  simp only [Bool.false_eq_true, if_false]
  refine wpS_of_wp (wp_skip ?_)
  cases c₀
  simp_all [bodyPostS, results, Go.Proofs.Tryd.results62]

theorem words_walk (n m : Nat) (hm : (n + 63) / 64 = m) (hn : n < 4294967296) (w : World) : Calls Go.Proofs.Tryd.prog 63 #[.int .u64 n] w fun e w' => e = .returned (.int .i64 m) ∧ w' = w :=
  F63_calls (F63_spec hn ⟨by rw [hm], rfl⟩)
theorem und43 : Go.Proofs.Tryd.prog.underlying 61 = some (.slice 65) := by kernel_rfl
theorem und23 : Go.Proofs.Tryd.prog.underlying 23 = some (.slice 22) := by kernel_rfl
theorem inf_of {P : Program} {t : TypeId} {z : Value} {b : Nat} (h : (P.info? t).map (fun i => (i.zero, i.size, i.bytes)) = some (some z, 1, b)) : ∃ i, P.info? t = some i ∧ i.zero = some z ∧ i.size = 1 ∧ i.bytes = b := by
  obtain ⟨i, hi, he⟩ := Option.map_eq_some_iff.1 h
  simp only [Prod.mk.injEq] at he
  exact ⟨i, hi, he.1, he.2.1, he.2.2⟩
theorem inf77 : ∃ i, Go.Proofs.Tryd.prog.info? 65 = some i ∧ i.zero = some (.int .u64 0) ∧ i.size = 1 ∧ i.bytes = 8 := inf_of (by kernel_rfl)
theorem inf22 : ∃ i, Go.Proofs.Tryd.prog.info? 22 = some i ∧ i.zero = some (.int .u64 0) ∧ i.size = 1 ∧ i.bytes = 8 := inf_of (by kernel_rfl)
theorem make77 (m : Nat) (hm : m < 4294967296) (w : World) : (Instr.makeSlice 61 (.int .i64 m) (.int .i64 m)).run Go.Proofs.Tryd.prog w = .ok (.slice (some ⟨w.heap.size, 0, none⟩) m m) (w.alloc (.cells (madeCells #[.int .u64 0] m) 65)) := by
  obtain ⟨i, hi, hz, h1, hb⟩ := inf77
  have := run_make (P := Go.Proofs.Tryd.prog) w 61 65 _ _ und43 hi hz .i64 .i64 m m (by omega) (Int.le_refl _) (by rw [hb]; omega) (by omega)
  simp only [h1, Int.toNat_natCast, Nat.mul_one] at this
  exact this
noncomputable def rest59 : Code := match Go.Proofs.Tryd.f50.body with | some (.seq _ (.seq _ r)) => r | _ => .skip
def F50 (k : Value → W) (p : Addr) (n : Int) : W :=
 CallT Go.Proofs.Tryd.prog 63 [.int .u64 n] (.s (.one (.int .i64))) fun x =>
 RawT Go.Proofs.Tryd.prog (Instr.makeSlice 61 (.int .i64 x) (.int .i64 x)) (.s (.one .slice)) fun sp sl sc =>
 New [.int .u64 n, .slice sp sl sc] 63 fun b =>
 Store1 p (.pointer (some ⟨b, 0, none⟩)) <|
 LoadT .ptr p fun q =>
 Store1 p (.pointer q) <|
 LoadT .ptr p fun q =>
 k (.pointer q)
def K59 (k : Value → W) : Ks :=
  { nrm := fun _ => bot, ret := fun e => resW Go.Proofs.Tryd.prog Go.Proofs.Tryd.f50.results.toList e fun vs => k (one? vs), ext := fun _ _ => bot }
set_option maxRecDepth 100000 in
theorem F50_eq (k : Value → W) (p : Addr) (n : Int) : comp Go.Proofs.Tryd.prog 11 [] rest59 (K59 k) (mkEnv [(0, .val (.int .u64 n)), (2, .val (.pointer (some p)))]) = F50 k p n := by kernel_rfl
set_option maxRecDepth 100000 in
theorem F50_calls {n : Int} {w : World} {R : Ending → World → Prop} (h : F50 (fun v w => R (.returned v) w) ⟨w.heap.size, 0, none⟩ n (w.alloc (.cells #[.pointer none] 44))) : Calls Go.Proofs.Tryd.prog 50 #[.int .u64 n] w R := by
  have hmf : ∀ (fn : Go.Fn) (first cap : Array Value) (w : World), (Instr.makeFunc fn first cap).run Go.Proofs.Tryd.prog w = .ok (.func fn first cap) w := fun _ _ _ _ => rfl
  have hc := (congrFun (F50_eq _ _ _) _).mpr h
  go_enter_defers Go.Proofs.Tryd.func50, Go.Proofs.Tryd.ntmps50
  apply wp_seq
  apply wp_region
  simp [wpOps, go_sem, Exit.then]
  refine Or.inl ?_
  apply wp_seq
  apply wp_region
  simp [wpOps, go_sem, hmf]
  refine Or.inl (Or.inl ?_)
  show Code.wp Go.Proofs.Tryd.prog rest59 _ _ _
  refine wp_mono (comp_sound (n := 11) (D := [{ target := Target.fn (Go.Fn.func 62) #[Value.pointer (some ⟨w.heap.size, 0, none⟩)], args := #[] }]) noNum follows [] rest59 (K59 fun v w => R (.returned v) w) _ _ _ hc ?_) fun ex a' w' q => ?_
  · refine ⟨rfl, rfl, fun t v hv => ?_⟩
    simp only [mkEnv] at hv
    cases h0 : Nat.beq t 0 with
    | true =>
      rw [h0] at hv
      have ht := Nat.eq_of_beq_eq_true h0
      subst ht
      cases hv
      rfl
    | false =>
      rw [h0] at hv
      cases h2 : Nat.beq t 2 with
      | true =>
        rw [h2] at hv
        have ht := Nat.eq_of_beq_eq_true h2
        subst ht
        cases hv
        rfl
      | false => rw [h2] at hv; cases hv
  · cases ex with
    | ret =>
      obtain ⟨e, ha, q⟩ := q
      obtain ⟨vs, h1, h2⟩ := run_results (fn := Go.Proofs.Tryd.f50) (k := fun vs => (fun v w => R (.returned v) w) (one? vs)) ha q
      show Leaves _ _ _ _ _ _ _
      rw [ha.defers]
      refine leaves_cons (f := 62) (args := #[.pointer (some ⟨w.heap.size, 0, none⟩)]) (by simp) (by simp [go_sem]) ?_
      refine (F62_idle _ _).mono ?_
      rintro e u' w'' ⟨rfl, rfl, rfl⟩
      exact ⟨_, h2, h1⟩
    | normal => obtain ⟨e, ha, q⟩ := q; exact False.elim q
    | exit i => obtain ⟨e, ha, q⟩ := q; exact False.elim q
    | _ => exact False.elim q
theorem F50_call {n : Int} {w : World} {g : Fn W (RTy.leaves (.s (.one .ptr)))} (h : F50 (fun v => Back (.s (.one .ptr)) g (.returned v)) ⟨w.heap.size, 0, none⟩ n (w.alloc (.cells #[.pointer none] 44))) : CallT Go.Proofs.Tryd.prog 50 [.int .u64 n] (.s (.one .ptr)) g w := F50_calls h
end Go.Proofs.YtopdlfecfgimpaaDoor.E
