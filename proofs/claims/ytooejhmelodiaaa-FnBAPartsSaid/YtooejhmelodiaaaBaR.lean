/-
  Sparse bit arrays: Nand, Or, copies.
-/
import Derived.Test.YtooejhmelodiaaaBaQ
namespace Go.Proofs.Ytooejhmelodiaaa.E
open Go
set_option linter.unusedSimpArgs false
set_option linter.unusedVariables false
set_option maxRecDepth 100000
set_option maxHeartbeats 4000000

section
variable {k : Value → W} {w : World}
/-- Nand. -/
theorem F102_spec {n1 n2 : Nat} {P Q : Sp} {F1 F2 : Nat → Prop} (h1 : SA w n1 P F1) (h2 : SA w n2 Q F2) (hP : Good P) (hQ : Good Q) (lP : P.length < 100000) (lQ : Q.length < 100000)
    (hk : ∀ w' n F', SA w' n (nandM P Q) F' → (∀ b, F' b → w.heap.size ≤ b) → Fr (fun _ => False) w w' → k (.iface 73 (.pointer (some ⟨n, 0, none⟩))) w') : F102 k (some ⟨n1, 0, none⟩) (some ⟨n2, 0, none⟩) w := by
  obtain ⟨bp1, bc1, ip1, ic1, h1, _⟩ := h1
  obtain ⟨bp2, bc2, ip2, ic2, h2, _⟩ := h2
  unfold F102
  rw [NN_mk]
  refine load_slice (i := 1) h1.a rfl ?_
  refine mk24 0 P.length (by omega) (by omega) fun q1 w3 eq1 f3 o3 b3 => ?_
  refine mk65 0 P.length (by omega) (by omega) fun q2 w4 eq2 f4 o4 b4 => ?_
  have f04 : Fr (fun _ => False) w w4 := f3.trans f4 fun _ h => h.elim
  have hz3 := f3.size
  have hBd : Bd w w4 (some ⟨q1, 0, none⟩) 0 P.length (some ⟨q2, 0, none⟩) 0 P.length [] [] := ⟨o3.fr f4 fun _ _ => id, o4, fun x hx => by rw [bl_q.1 hx]; omega, fun x hx => by rw [bl_q.1 hx]; omega, f04⟩
  refine F102_L1_rule (I := fun s o ip il ic bp bl' bc i j w' => s = some ⟨n1, 0, none⟩ ∧ o = some ⟨n2, 0, none⟩ ∧ ∃ (a b : Nat) (R : Sp), i = ((a : Nat) : Int) ∧ j = ((b : Nat) : Int) ∧ a ≤ P.length ∧ b ≤ Q.length ∧ R.length ≤ a ∧ R ++ nandM (P.drop a) (Q.drop b) = nandM P Q ∧ Bd w w' ip il ic bp bl' bc R R)
    (μ := fun s o ip il ic bp bl' bc i j w' => P.length + Q.length - i.toNat - j.toNat) ?_ ⟨rfl, rfl, 0, 0, [], rfl, rfl, Nat.zero_le _, Nat.zero_le _, Nat.zero_le _, rfl, hBd⟩
  rintro _ _ ip il ic bp bl' bc _ _ w5 ⟨rfl, rfl, a, b, R, rfl, rfl, ha, hb, hR, he, B5⟩
  have k1 := h1.fr0 B5.f
  have k2 := h2.fr0 B5.f
  unfold F102_L1
  rw [NN_mk]
  refine load_slice (i := 1) k1.a rfl ?_
  by_cases e1 : a = P.length
  · subst e1
    rw [show (((P.length : Nat) : Int) == ((P.length : Nat) : Int)) = true from beq_self_eq_true _, BIf_true]
    rw [List.drop_length, nandM_nil', List.append_nil] at he
    subst he
    exact B5.fin hk
  rw [show (((a : Nat) : Int) == ((P.length : Nat) : Int)) = false by rw [beq_eq_false_iff_ne]; omega, BIf_false, NN_mk]
  refine load_slice (i := 1) k2.a rfl ?_
  have hp : P[a]? = some (P[a]'(by omega)) := List.getElem?_eq_getElem (by omega)
  generalize P[a]'(by omega) = p at hp
  obtain ⟨i, x⟩ := p
  have hx := (hP.o _ (List.mem_of_getElem? hp)).2.1
  -- an element that is taken over
  have take : ∀ (w6 : World), Bd w w6 ip il ic bp bl' bc R R → R ++ (i, x) :: nandM (P.drop (a + 1)) (Q.drop b) = nandM P Q →
      (RawT Try.prog (Instr.buildSlice 83 1 [(0, .int .u64 ((i : Nat) : Int))].toArray) (.s (.one .slice)) fun s40p s40l s40c =>
       NextT Try.prog (builtin .append #[83, 83] 83 [false, false].toArray [.slice ip il ic, .slice s40p s40l s40c].toArray) (.s (.one .slice)) fun s41p s41l s41c =>
       NN (some ⟨n1, 0, none⟩) fun a42 =>
       LoadT .slice a42 fun s43p s43l s43c =>
       NN s43p fun a44 =>
       Req (0 ≤ ((a : Nat) : Int) ∧ ((a : Nat) : Int) < ((s43l : Nat) : Int)) <|
       LoadT (.int .u64) (a44.add ((a : Nat) : Int).toNat) fun x45 =>
       RawT Try.prog (Instr.buildSlice 82 1 [(0, .int .u64 x45)].toArray) (.s (.one .slice)) fun s46p s46l s46c =>
       NextT Try.prog (builtin .append #[82, 82] 82 [false, false].toArray [.slice bp bl' bc, .slice s46p s46l s46c].toArray) (.s (.one .slice)) fun s47p s47l s47c =>
       fun w' => ((some ⟨n1, 0, none⟩ : Option Addr) = some ⟨n1, 0, none⟩ ∧ (some ⟨n2, 0, none⟩ : Option Addr) = some ⟨n2, 0, none⟩ ∧ ∃ (a' b' : Nat) (R' : Sp), addI .i64 ((a : Nat) : Int) 1 = ((a' : Nat) : Int) ∧ ((b : Nat) : Int) = ((b' : Nat) : Int) ∧ a' ≤ P.length ∧ b' ≤ Q.length ∧ R'.length ≤ a' ∧
          R' ++ nandM (P.drop a') (Q.drop b') = nandM P Q ∧ Bd w w' s41p s41l s41c s47p s47l s47c R' R') ∧ P.length + Q.length - (addI .i64 ((a : Nat) : Int) 1).toNat - ((b : Nat) : Int).toNat < P.length + Q.length - ((a : Nat) : Int).toNat - ((b : Nat) : Int).toNat) w6 := fun w6 B6 he' => by
    refine B6.addI (y := x) (by omega) fun w7 ip' ic' B7 => ?_
    have k7 := h1.fr0 B7.f
    rw [NN_mk]
    refine load_slice (i := 0) k7.a rfl (ldO k7.b (by rw [bls_get, hp]; rfl) ?_)
    refine B7.addB (x := i) (by omega) fun w8 bp' bc' B8 => ?_
    rw [addI_i64 (by omega) (by omega)]
    refine ⟨⟨rfl, rfl, a + 1, b, R ++ [(i, x)], by omega, rfl, by omega, hb, by simp; omega, by rw [← he']; simp, B8⟩, ?_⟩
    omega
  by_cases e2 : b = Q.length
  · subst e2
    rw [show (((Q.length : Nat) : Int) == ((Q.length : Nat) : Int)) = true from beq_self_eq_true _, BIf_true, NN_mk]
    refine load_slice (i := 1) k1.a rfl (ldO k1.i (by rw [ixs_get, hp]; rfl) ?_)
    refine take w5 B5 ?_
    rw [← he, List.drop_length, nandM_nil, nandM_nil, drop_cons hp]
  rw [show (((b : Nat) : Int) == ((Q.length : Nat) : Int)) = false by rw [beq_eq_false_iff_ne]; omega, BIf_false, NN_mk]
  have hq : Q[b]? = some (Q[b]'(by omega)) := List.getElem?_eq_getElem (by omega)
  generalize Q[b]'(by omega) = q0 at hq
  obtain ⟨j, y⟩ := q0
  have hy := (hQ.o _ (List.mem_of_getElem? hq)).2.1
  rw [drop_cons hp, drop_cons hq, nandM] at he
  refine load_slice (i := 1) k1.a rfl (ldO k1.i (by rw [ixs_get, hp]; rfl) ?_)
  rw [NN_mk]
  refine load_slice (i := 1) k2.a rfl (ldO k2.i (by rw [ixs_get, hq]; rfl) ?_)
  by_cases c1 : j < i
  · rw [decide_eq_true (show ((j : Nat) : Int) < ((i : Nat) : Int) by omega), BIf_true]
    refine bind_intro ?_
    rw [addI_i64 (by omega) (by omega)]
    rw [if_pos c1, ← drop_cons hp] at he
    refine ⟨⟨rfl, rfl, a, b + 1, R, rfl, by omega, ha, by omega, hR, he, B5⟩, ?_⟩
    omega
  rw [decide_eq_false (show ¬ ((j : Nat) : Int) < ((i : Nat) : Int) by omega), BIf_false]
  rw [if_neg c1] at he
  by_cases c2 : i < j
  · rw [decide_eq_true (show ((j : Nat) : Int) > ((i : Nat) : Int) by omega), BIf_true]
    rw [if_pos c2, ← drop_cons hq] at he
    exact take w5 B5 he
  rw [decide_eq_false (show ¬ ((j : Nat) : Int) > ((i : Nat) : Int) by omega), BIf_false]
  rw [if_neg c2] at he
  refine drw_intro fun w6 f6 z6 => ?_
  have B6 := B5.fr0 f6
  have k1 := k1.fr0 f6
  have k2 := k2.fr0 f6
  rw [NN_mk]
  refine load_slice (i := 0) k1.a rfl (ldO k1.b (by rw [bls_get, hp]; rfl) ?_)
  rw [NN_mk]
  refine load_slice (i := 0) k2.a rfl (ldO k2.b (by rw [bls_get, hq]; rfl) ?_)
  refine F77_call ?_
  unfold F77
  rw [andNotI_nat hx hy]
  refine back_int (chk (i := 0) k2.a rfl (chk (i := 0) k1.a rfl ?_))
  have again : ∀ (w7 : World) ip' il' ic' bp' bl'' bc' R', R'.length ≤ a + 1 → R' ++ nandM (P.drop (a + 1)) (Q.drop (b + 1)) = nandM P Q → Bd w w7 ip' il' ic' bp' bl'' bc' R' R' →
      F102_J1 k (fun s o ip il ic bp bl' bc i j w' => (s = some ⟨n1, 0, none⟩ ∧ o = some ⟨n2, 0, none⟩ ∧ ∃ (a b : Nat) (R : Sp), i = ((a : Nat) : Int) ∧ j = ((b : Nat) : Int) ∧ a ≤ P.length ∧ b ≤ Q.length ∧ R.length ≤ a ∧ R ++ nandM (P.drop a) (Q.drop b) = nandM P Q ∧ Bd w w' ip il ic bp bl' bc R R) ∧
        P.length + Q.length - i.toNat - j.toNat < P.length + Q.length - ((a : Nat) : Int).toNat - ((b : Nat) : Int).toNat) (some ⟨n1, 0, none⟩) (some ⟨n2, 0, none⟩) ip' il' ic' bp' bl'' bc' ((a : Nat) : Int) ((b : Nat) : Int) w7 := fun w7 ip' il' ic' bp' bl'' bc' R' hR' he' B7 => by
    unfold F102_J1
    refine bind_intro ?_
    rw [addI_i64 (by omega) (by omega), addI_i64 (by omega) (by omega)]
    refine ⟨⟨rfl, rfl, a + 1, b + 1, R', by omega, by omega, by omega, by omega, hR', he', B7⟩, ?_⟩
    omega
  by_cases hz : dif x y = 0
  · rw [hz, decide_eq_false (show ¬ (((0 : Nat) : Int) > 0) by omega), BIf_false]
    refine again w6 ip il ic bp bl' bc R (by omega) ?_ B6
    rw [← he, hz]; unfold cn; rw [if_pos rfl]
  · rw [decide_eq_true (show ((dif x y : Nat) : Int) > 0 by omega), BIf_true]
    refine B6.addI (y := dif x y) (by omega) fun w7 ip' ic' B7 => ?_
    refine B7.addB (x := i) (by omega) fun w8 bp' bc' B8 => ?_
    refine again w8 _ _ _ _ _ _ _ (by simp; omega) ?_ B8
    rw [← he]; unfold cn; rw [if_neg hz]; simp

/-! ## Copies -/
theorem cpy {e dT : TypeId} {q c m : Nat} {p : Option Addr} {vs : List Value} {z : Value} {cs : Array Bool} {f : Int → W} (hu : Try.prog.underlying dT = some (.slice e)) (hs : (Try.prog.info? e).map (·.size) = some 1) (hB : Own w e (some ⟨q, 0, none⟩) m m (List.replicate m z)) (hO : Own w e p m c vs) (hq : ∀ b, bl p b → b ≠ q) (h1 : Us vs)
    (hk : ∀ w', Own w' e (some ⟨q, 0, none⟩) m m vs → Fr (fun b => b = q) w w' → ∀ n, f n w') :
    NextT Try.prog (builtin .copy #[dT, dT] 3 cs [.slice (some ⟨q, 0, none⟩) m m, .slice p m c].toArray) (.s (.one (.int .i64))) f w := by
  have hvl := hO.1
  by_cases h0 : m = 0
  · subst h0
    have : vs = [] := List.length_eq_zero_iff.1 hvl
    subst this
    exact copy_none hu hs rfl (hk w hB (Fr.refl _ _) 0)
  · obtain ⟨q', rest', rfl, hQ', _, _⟩ := hO.get (by omega)
    obtain ⟨rest, hQ, hqc, hqm⟩ := hB.full
    have hr : rest = [] := by
      have : (List.replicate m z ++ rest).length = m := hqc
      simp at this; exact this
    subst hr
    rw [List.append_nil] at hQ
    refine copy_intro (src := vs) hu hs hQ (by omega) (fun j v hj => ?_) (by simp; omega) h1 fun w' b' f' z' => ?_
    · rw [add_mk, Nat.zero_add, hO.cell (by have := (List.getElem?_eq_some_iff.1 hj).1; omega)]; exact hj
    · rw [List.take_zero, List.nil_append, Nat.zero_add, List.drop_of_length_le (by simp; omega)] at b'
      exact hk w' (Own.mk' b' hvl (by simp; omega) hqm) f' _
theorem F71_spec {n : Nat} {P : Sp} {F : Nat → Prop} (h : SA w n P F) (lP : P.length < 100000) (hk : ∀ w' n F', SA w' n P F' → (∀ b, F' b → w.heap.size ≤ b) → Fr (fun _ => False) w w' → k (.pointer (some ⟨n, 0, none⟩)) w') : F71 k (some ⟨n, 0, none⟩) w := by
  obtain ⟨bp, bc, ip, ic, h, hF⟩ := h
  unfold F71
  rw [NN_mk]
  refine load_slice (i := 0) h.a rfl ?_
  refine mk65 P.length P.length (by omega) (by omega) fun q1 w1 eq1 f1 o1 b1 => ?_
  have g := h.fr0 f1
  rw [NN_mk]
  refine load_slice (i := 0) g.a rfl ?_
  refine cpy und82 hsz65 o1 g.b (fun b hb => by have := h.b.lt hb; omega) (bls_us P) fun w2 o2 f2 _ => ?_
  have f02 : Fr (fun _ => False) w w2 := f1.trans f2 fun b hb => .inr (by have hb : b = q1 := hb; omega)
  have g := h.fr0 f02
  rw [NN_mk]
  refine load_slice (i := 1) g.a rfl ?_
  have hz2 := f02.size
  have hq1 := o2.lt (b := q1) ⟨_, rfl, rfl⟩
  refine mk24 P.length P.length (by omega) (by omega) fun q2 w3 eq2 f3 o3 b3 => ?_
  have f03 := f02.trans f3 fun _ h => h.elim
  have g := h.fr0 f03
  rw [NN_mk]
  refine load_slice (i := 1) g.a rfl ?_
  refine cpy und83 hsz24 o3 g.i (fun b hb => by have := h.i.lt hb; omega) (ixs_us P) fun w4 o4 f4 _ => ?_
  have f04 : Fr (fun _ => False) w w4 := f03.trans f4 fun b hb => .inr (by have hb : b = q2 := hb; omega)
  refine new_intro fun n' w5 e5 b5 f5 z5 => ?_
  have hz4 := f04.size
  have o2 := ((o2.fr f3 fun _ _ => id).fr f4 fun b hb e => by rw [bl_q.1 hb] at e; have e : q1 = q2 := e; omega).fr f5 fun _ _ => id
  refine hk w5 n' (fun b => b = n' ∨ bl (some ⟨q1, 0, none⟩) b ∨ bl (some ⟨q2, 0, none⟩) b) ⟨_, _, _, _, ⟨b5, o2, o4.fr f5 fun _ _ => id⟩, fun _ => Iff.rfl⟩ (fun b hb => ?_) (f04.trans f5 fun _ h => h.elim)
  rcases hb with e | e | e
  · omega
  · rw [bl_q.1 e]; omega
  · rw [bl_q.1 e]; omega
end
end Go.Proofs.Ytooejhmelodiaaa.E
