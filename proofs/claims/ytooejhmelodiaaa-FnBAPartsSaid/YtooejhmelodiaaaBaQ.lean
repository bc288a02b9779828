/-
  Sparse bit arrays: And, Nand.
-/
import Derived.Test.YtooejhmelodiaaaBaO
namespace Go.Proofs.Ytooejhmelodiaaa.E
open Go
set_option linter.unusedSimpArgs false
set_option linter.unusedVariables false
set_option maxRecDepth 100000
set_option maxHeartbeats 4000000

theorem andNotI_nat {x y : Nat} (hx : x < 18446744073709551616) (hy : y < 18446744073709551616) : andNotI .u64 ((x : Nat) : Int) ((y : Nat) : Int) = ((dif x y : Nat) : Int) := by
  have e : (BitVec.ofInt IntKind.u64.bits ((x : Nat) : Int) &&& ~~~(BitVec.ofInt IntKind.u64.bits ((y : Nat) : Int))).toNat = dif x y := by
    apply Nat.eq_of_testBit_eq
    intro i
    rw [dif_bit, BitVec.toNat_and, Nat.testBit_and, u64_toNat hx]
    by_cases hi : i < 64
    · have : (~~~(BitVec.ofInt IntKind.u64.bits ((y : Nat) : Int))).toNat.testBit i = !y.testBit i := by
        have h1 : (~~~(BitVec.ofInt IntKind.u64.bits ((y : Nat) : Int))).toNat.testBit i = (~~~(BitVec.ofInt IntKind.u64.bits ((y : Nat) : Int))).getLsbD i := rfl
        rw [h1, BitVec.getLsbD_not, show (decide (i < IntKind.u64.bits)) = true from decide_eq_true hi, Bool.true_and]
        have h2 : (BitVec.ofInt IntKind.u64.bits ((y : Nat) : Int)).getLsbD i = (BitVec.ofInt IntKind.u64.bits ((y : Nat) : Int)).toNat.testBit i := rfl
        rw [h2, u64_toNat hy]
      rw [this]
    · have : x.testBit i = false := Nat.testBit_lt_two_pow (Nat.lt_of_lt_of_le (by omega : x < 2 ^ 64) (Nat.pow_le_pow_right (by decide) (by omega)))
      rw [this]; rfl
  unfold andNotI
  rw [e]
  have := dif_lt (c := y) hx
  exact wrap_u64 (by omega) (by omega)
theorem drop_cons {P : Sp} {a : Nat} {p : Nat × Nat} (h : P[a]? = some p) : P.drop a = p :: P.drop (a + 1) := by
  obtain ⟨h1, rfl⟩ := List.getElem?_eq_some_iff.1 h
  exact List.drop_eq_getElem_cons h1
section
variable {k : Value → W} {w : World}
theorem und138 : Try.prog.underlying 138 = some (.slice 2) := by kernel_rfl
theorem inf3 : ∃ i, Try.prog.info? 2 = some i ∧ i.zero = some (.int .i64 0) ∧ i.size = 1 ∧ i.bytes ≤ 4096 := ⟨_, rfl, by kernel_rfl, by kernel_rfl, Nat.le_of_ble_eq_true (by kernel_rfl)⟩
theorem fill3 (x y : Int) : ∀ i : TypeInfo, i.size = 1 → Instr.fill (fun j => some (j * i.size, i.size)) ((Array.range (2 * i.size)).map ((Value.int .i64 0).cells[· % (Value.int .i64 0).cells.size]!)) [(0, .int .i64 x), (1, .int .i64 y)] = some [.int .i64 x, .int .i64 y].toArray := by
  intro i h; rw [h]; kernel_rfl
/-- The greater of two numbers (that it is one of them is enough). -/
theorem F107_spec {q a b : Nat} (hB : Blk w q 2 [.int .i64 ((a : Nat) : Int), .int .i64 ((b : Nat) : Int)]) (ha : a < 100000) (hb : b < 100000) (hk : ∀ m : Nat, m < 100000 → k (.int .i64 ((m : Nat) : Int)) w) : F107 k (some ⟨q, 0, none⟩) 2 2 w := by
  unfold F107
  rw [NN_mk]
  refine ⟨by omega, ?_⟩
  rw [show ((0 : Int).toNat) = 0 from rfl]
  refine load_int (i := 0) hB rfl ?_
  refine F107_L1_rule (I := fun p l c m i w' => p = some ⟨q, 0, none⟩ ∧ l = 2 ∧ c = 2 ∧ w' = w ∧ (i = 1 ∨ i = 2) ∧ ∃ m' : Nat, m = ((m' : Nat) : Int) ∧ m' < 100000) (μ := fun p l c m i w' => (3 - i).toNat) ?_ ⟨rfl, rfl, rfl, rfl, .inl rfl, a, rfl, ha⟩
  rintro _ _ _ _ i w1 ⟨rfl, rfl, rfl, rfl, hi, m, rfl, hm⟩
  unfold F107_L1
  rcases hi with rfl | rfl
  · rw [show decide ((1 : Int) < ((2 : Nat) : Int)) = true from rfl, BIf_true, NN_mk]
    refine ⟨by omega, ?_⟩
    rw [show ((1 : Int).toNat) = 1 from rfl]
    refine load_int (i := 1) hB rfl ?_
    rw [show addI .i64 1 1 = 2 from addI_i64 (by omega) (by omega)]
    refine BIf_intro (fun _ => ?_) fun _ => ?_
    · rw [NN_mk]
      refine ⟨by omega, ?_⟩
      refine load_int (i := 1) hB rfl ?_
      exact ⟨⟨rfl, rfl, rfl, rfl, .inr rfl, b, rfl, hb⟩, by omega⟩
    · exact ⟨⟨rfl, rfl, rfl, rfl, .inr rfl, m, rfl, hm⟩, by omega⟩
  · rw [show decide ((2 : Int) < ((2 : Nat) : Int)) = false from rfl, BIf_false]
    exact hk m hm
theorem mx2 {f : Option Addr → Nat → Nat → W} {a b : Nat} (hk : ∀ q w', q = w.heap.size → Blk w' q 2 [.int .i64 ((a : Nat) : Int), .int .i64 ((b : Nat) : Int)] → Fr (fun _ => False) w w' → f (some ⟨q, 0, none⟩) 2 2 w') :
    RawT Try.prog (Instr.buildSlice 138 2 [(0, .int .i64 ((a : Nat) : Int)), (1, .int .i64 ((b : Nat) : Int))].toArray) (.s (.one .slice)) f w := by
  obtain ⟨i, g1, g2, g3, g4⟩ := inf3
  exact build_intro und138 g1 g2 (by omega) (by omega) (fill3 _ _ i g3) fun w1 f1 b1 z1 => hk _ w1 rfl b1 f1
theorem mk24 {f : Option Addr → Nat → Nat → W} (n m : Nat) {kl kc : IntKind} (hm : m ≤ 4294967296) (hnm : n ≤ m)
    (hk : ∀ q w', q = w.heap.size → Fr (fun _ => False) w w' → Own w' 24 (some ⟨q, 0, none⟩) n m (List.replicate n (uv 0)) → Blk w' q 24 (List.replicate m (uv 0)) → f (some ⟨q, 0, none⟩) n m w') :
    RawT Try.prog (Instr.makeSlice 83 (.int kl (n : Int)) (.int kc (m : Int))) (.s (.one .slice)) f w := by
  obtain ⟨i, g1, g2, g3, g4⟩ := inf24
  exact make_intro n m und83 g1 g2 g3 rfl (by omega) hm hnm fun w' f o b z => hk _ w' rfl f o b
theorem mk65 {f : Option Addr → Nat → Nat → W} (n m : Nat) {kl kc : IntKind} (hm : m ≤ 4294967296) (hnm : n ≤ m)
    (hk : ∀ q w', q = w.heap.size → Fr (fun _ => False) w w' → Own w' 65 (some ⟨q, 0, none⟩) n m (List.replicate n (uv 0)) → Blk w' q 65 (List.replicate m (uv 0)) → f (some ⟨q, 0, none⟩) n m w') :
    RawT Try.prog (Instr.makeSlice 82 (.int kl (n : Int)) (.int kc (m : Int))) (.s (.one .slice)) f w := by
  obtain ⟨i, g1, g2, g3, g4⟩ := inf65
  exact make_intro n m und82 g1 g2 g3 rfl (by omega) hm hnm fun w' f o b z => hk _ w' rfl f o b
/-- An array that is being built behind w0. -/
structure Bd (w0 w : World) (ip : Option Addr) (il ic : Nat) (bp : Option Addr) (bl' bc : Nat) (R S : Sp) : Prop where
  i : Own w 24 ip il ic (ixs R)
  b : Own w 65 bp bl' bc (bls S)
  hi : ∀ x, bl ip x → w0.heap.size ≤ x
  hb : ∀ x, bl bp x → w0.heap.size ≤ x
  f : Fr (fun _ => False) w0 w
theorem Bd.nbi {w0 w : World} {ip bp : Option Addr} {il ic bl' bc : Nat} {R S : Sp} (h : Bd w0 w ip il ic bp bl' bc R S) : ∀ x, bl ip x → ¬ bl bp x := fun x hx hy => by
  obtain ⟨us, hu⟩ := h.i.blk hx
  obtain ⟨us', hu'⟩ := h.b.blk hy
  exact absurd (hu.unique hu').1 (by decide)
theorem Bd.fr0 {w0 w w' : World} {ip bp : Option Addr} {il ic bl' bc : Nat} {R S : Sp} (h : Bd w0 w ip il ic bp bl' bc R S) (f : Fr (fun _ => False) w w') : Bd w0 w' ip il ic bp bl' bc R S :=
  ⟨h.i.fr f fun _ _ => id, h.b.fr f fun _ _ => id, h.hi, h.hb, h.f.trans f fun _ h => h.elim⟩
theorem Bd.addI {w0 : World} {ip bp : Option Addr} {il ic bl' bc x y : Nat} {R S : Sp} {ty : TypeId} {cs : Array Bool} {f : Option Addr → Nat → Nat → W} (h : Bd w0 w ip il ic bp bl' bc R S) (hl : R.length < 1000000)
    (hk : ∀ w' ip' ic', Bd w0 w' ip' (il + 1) ic' bp bl' bc (R ++ [(x, y)]) S → f ip' (il + 1) ic' w') :
    RawT Try.prog (Instr.buildSlice 83 1 [(0, .int .u64 ((x : Nat) : Int))].toArray) (.s (.one .slice)) (fun a m d => NextT Try.prog (builtin .append #[83, 83] ty cs [.slice ip il ic, .slice a m d].toArray) (.s (.one .slice)) f) w := by
  obtain ⟨ie, g1, g2, g3, g4⟩ := inf24
  have hil : il = R.length := by have := h.i.1; simpa using this.symm
  have hz := h.f.size
  refine append1 (P := Try.prog) und83 g1 g2 g3 rfl g4 h.i (v := uv x) rfl rfl (by omega) fun p' c' w1 f1 o1 hp' z1 => ?_
  refine hk w1 p' c' ⟨by rw [ixs_app]; exact o1, h.b.fr f1 fun b hb hx => h.nbi b hx hb, fun b hb => ?_, h.hb, h.f.trans f1 fun b hb => .inr (h.hi b hb)⟩
  rcases hp' b hb with h' | h'
  · exact h.hi b h'
  · omega
theorem Bd.addB {w0 : World} {ip bp : Option Addr} {il ic bl' bc x y : Nat} {R S : Sp} {ty : TypeId} {cs : Array Bool} {f : Option Addr → Nat → Nat → W} (h : Bd w0 w ip il ic bp bl' bc R S) (hl : S.length < 1000000)
    (hk : ∀ w' bp' bc', Bd w0 w' ip il ic bp' (bl' + 1) bc' R (S ++ [(x, y)]) → f bp' (bl' + 1) bc' w') :
    RawT Try.prog (Instr.buildSlice 82 1 [(0, .int .u64 ((y : Nat) : Int))].toArray) (.s (.one .slice)) (fun a m d => NextT Try.prog (builtin .append #[82, 82] ty cs [.slice bp bl' bc, .slice a m d].toArray) (.s (.one .slice)) f) w := by
  obtain ⟨ie, g1, g2, g3, g4⟩ := inf65
  have hil : bl' = S.length := by have := h.b.1; simpa using this.symm
  have hz := h.f.size
  refine append1 (P := Try.prog) und82 g1 g2 g3 rfl g4 h.b (v := uv y) rfl rfl (by omega) fun p' c' w1 f1 o1 hp' z1 => ?_
  refine hk w1 p' c' ⟨h.i.fr f1 fun b hb hx => h.nbi b hb hx, by rw [bls_app]; exact o1, h.hi, fun b hb => ?_, h.f.trans f1 fun b hb => .inr (h.hb b hb)⟩
  rcases hp' b hb with h' | h'
  · exact h.hb b h'
  · omega
/-- The array is made of what was built. -/
theorem Bd.fin {w0 : World} {ip bp : Option Addr} {il ic bl' bc : Nat} {R : Sp} (h : Bd w0 w ip il ic bp bl' bc R R)
    (hk : ∀ w' n F', SA w' n R F' → (∀ b, F' b → w0.heap.size ≤ b) → Fr (fun _ => False) w0 w' → k (.iface 73 (.pointer (some ⟨n, 0, none⟩))) w') :
    New [.slice bp bl' bc, .slice ip il ic] 85 (fun n22 => k (.iface 73 (.pointer (some ⟨n22, 0, none⟩)))) w := by
  have hil : il = R.length := by have := h.i.1; simpa using this.symm
  have hbl : bl' = R.length := by have := h.b.1; simpa using this.symm
  subst hil hbl
  refine new_intro fun n w1 e1 b1 f1 z1 => ?_
  have hz := h.f.size
  refine hk w1 n (fun b => b = n ∨ bl bp b ∨ bl ip b) ⟨bp, bc, ip, ic, ⟨b1, h.b.fr f1 fun _ _ => id, h.i.fr f1 fun _ _ => id⟩, fun _ => Iff.rfl⟩ (fun b hb => ?_) (h.f.trans f1 fun _ h => h.elim)
  rcases hb with e | hb | hb
  · omega
  · exact h.hb b hb
  · exact h.hi b hb
theorem cn_out {i b : Nat} {R S T : Sp} : (if b = 0 then R else R ++ [(i, b)]) ++ S = R ++ cn i b S := by
  unfold cn
  split
  · rfl
  · simp
/-- And. -/
theorem F96_spec {n1 n2 : Nat} {P Q : Sp} {F1 F2 : Nat → Prop} (h1 : SA w n1 P F1) (h2 : SA w n2 Q F2) (hP : Good P) (hQ : Good Q) (lP : P.length < 100000) (lQ : Q.length < 100000)
    (hk : ∀ w' n F', SA w' n (andM P Q) F' → (∀ b, F' b → w.heap.size ≤ b) → Fr (fun _ => False) w w' → k (.iface 73 (.pointer (some ⟨n, 0, none⟩))) w') : F96 k (some ⟨n1, 0, none⟩) (some ⟨n2, 0, none⟩) w := by
  obtain ⟨bp1, bc1, ip1, ic1, h1, _⟩ := h1
  obtain ⟨bp2, bc2, ip2, ic2, h2, _⟩ := h2
  unfold F96
  refine drw_intro fun w1 f1 z1 => ?_
  have g1 := h1.fr0 f1
  have g2 := h2.fr0 f1
  rw [NN_mk]
  refine load_slice (i := 1) g1.a rfl ?_
  rw [NN_mk]
  refine load_slice (i := 1) g2.a rfl ?_
  refine mx2 fun q w2 eq b2 f2 => ?_
  have g1 := g1.fr0 f2
  have g2 := g2.fr0 f2
  refine chk (i := 1) g2.a rfl (chk (i := 1) g1.a rfl ?_)
  refine F107_call (F107_spec b2 lP lQ fun m hm => back_int ?_)
  refine chk (i := 1) g2.a rfl (chk (i := 1) g1.a rfl ?_)
  refine mk24 0 m (by omega) (by omega) fun q1 w3 eq1 f3 o3 b3 => ?_
  refine mk65 0 m (by omega) (by omega) fun q2 w4 eq2 f4 o4 b4 => ?_
  have f04 : Fr (fun _ => False) w w4 := ((f1.trans f2 fun _ h => h.elim).trans f3 fun _ h => h.elim).trans f4 fun _ h => h.elim
  have hz2 := (f1.trans f2 fun _ h => h.elim).size
  have hz3 := f3.size
  have hBd : Bd w w4 (some ⟨q1, 0, none⟩) 0 m (some ⟨q2, 0, none⟩) 0 m [] [] := ⟨o3.fr f4 fun _ _ => id, o4, fun x hx => by rw [bl_q.1 hx]; omega, fun x hx => by rw [bl_q.1 hx]; omega, f04⟩
  refine F96_L1_rule (I := fun s o ip il ic bp bl' bc i j w' => s = some ⟨n1, 0, none⟩ ∧ o = some ⟨n2, 0, none⟩ ∧ ∃ (a b : Nat) (R : Sp), i = ((a : Nat) : Int) ∧ j = ((b : Nat) : Int) ∧ a ≤ P.length ∧ b ≤ Q.length ∧ R.length ≤ a ∧ R ++ andM (P.drop a) (Q.drop b) = andM P Q ∧ Bd w w' ip il ic bp bl' bc R R)
    (μ := fun s o ip il ic bp bl' bc i j w' => P.length + Q.length - i.toNat - j.toNat) ?_ ⟨rfl, rfl, 0, 0, [], rfl, rfl, Nat.zero_le _, Nat.zero_le _, Nat.zero_le _, rfl, hBd⟩
  rintro _ _ ip il ic bp bl' bc _ _ w5 ⟨rfl, rfl, a, b, R, rfl, rfl, ha, hb, hR, he, B5⟩
  have k1 := h1.fr0 B5.f
  have k2 := h2.fr0 B5.f
  unfold F96_L1
  rw [NN_mk]
  refine load_slice (i := 1) k1.a rfl ?_
  by_cases e1 : a = P.length
  · subst e1
    rw [show (((P.length : Nat) : Int) == ((P.length : Nat) : Int)) = true from beq_self_eq_true _, BIf_true]
    unfold F96_J1
    rw [List.drop_length, andM_nil', List.append_nil] at he
    subst he
    exact B5.fin hk
  rw [show (((a : Nat) : Int) == ((P.length : Nat) : Int)) = false by rw [beq_eq_false_iff_ne]; omega, BIf_false, NN_mk]
  refine load_slice (i := 1) k2.a rfl ?_
  by_cases e2 : b = Q.length
  · subst e2
    rw [show (((Q.length : Nat) : Int) == ((Q.length : Nat) : Int)) = true from beq_self_eq_true _, BIf_true]
    unfold F96_J1
    rw [List.drop_length, andM_nil, List.append_nil] at he
    subst he
    exact B5.fin hk
  rw [show (((b : Nat) : Int) == ((Q.length : Nat) : Int)) = false by rw [beq_eq_false_iff_ne]; omega, BIf_false, NN_mk]
  have hp : P[a]? = some (P[a]'(by omega)) := List.getElem?_eq_getElem (by omega)
  have hq : Q[b]? = some (Q[b]'(by omega)) := List.getElem?_eq_getElem (by omega)
  generalize P[a]'(by omega) = p at hp
  generalize Q[b]'(by omega) = q0 at hq
  obtain ⟨i, x⟩ := p
  obtain ⟨j, y⟩ := q0
  rw [drop_cons hp, drop_cons hq, andM] at he
  refine load_slice (i := 1) k1.a rfl (ldO k1.i (by rw [ixs_get, hp]; rfl) ?_)
  rw [NN_mk]
  refine load_slice (i := 1) k2.a rfl (ldO k2.i (by rw [ixs_get, hq]; rfl) ?_)
  by_cases c1 : j < i
  · rw [decide_eq_true (show ((j : Nat) : Int) < ((i : Nat) : Int) by omega), BIf_true]
    refine bind_intro ?_
    rw [addI_i64 (by omega) (by omega)]
    rw [if_pos c1, ← drop_cons hp] at he
    refine ⟨⟨rfl, rfl, a, b + 1, R, rfl, by omega, ha, by omega, hR, he, B5⟩, ?_⟩
    show P.length + Q.length - ((a : Nat) : Int).toNat - (((b : Nat) : Int) + 1).toNat < P.length + Q.length - ((a : Nat) : Int).toNat - ((b : Nat) : Int).toNat
    omega
  rw [decide_eq_false (show ¬ ((j : Nat) : Int) < ((i : Nat) : Int) by omega), BIf_false]
  rw [if_neg c1] at he
  by_cases c2 : i < j
  · rw [decide_eq_true (show ((j : Nat) : Int) > ((i : Nat) : Int) by omega), BIf_true]
    rw [addI_i64 (by omega) (by omega)]
    rw [if_pos c2, ← drop_cons hq] at he
    refine ⟨⟨rfl, rfl, a + 1, b, R, by omega, rfl, by omega, hb, by omega, he, B5⟩, ?_⟩
    show P.length + Q.length - (((a : Nat) : Int) + 1).toNat - ((b : Nat) : Int).toNat < P.length + Q.length - ((a : Nat) : Int).toNat - ((b : Nat) : Int).toNat
    omega
  rw [decide_eq_false (show ¬ ((j : Nat) : Int) > ((i : Nat) : Int) by omega), BIf_false]
  rw [if_neg c2] at he
  refine drw_intro fun w6 f6 z6 => ?_
  have B6 := B5.fr0 f6
  have k1 := k1.fr0 f6
  have k2 := k2.fr0 f6
  rw [NN_mk]
  refine load_slice (i := 0) k1.a rfl (ldO k1.b (by rw [bls_get, hp]; rfl) ?_)
  rw [NN_mk]
  refine load_slice (i := 0) k2.a rfl (ldO k2.b (by rw [bls_get, hq]; rfl) ?_)
  have hx := (hP.o _ (List.mem_of_getElem? hp)).2.1
  have hy := (hQ.o _ (List.mem_of_getElem? hq)).2.1
  refine F70_call ?_
  unfold F70
  rw [andI_nat hx hy]
  refine back_int (chk (i := 0) k2.a rfl (chk (i := 0) k1.a rfl ?_))
  -- behind the appends
  have again : ∀ (w7 : World) ip' il' ic' bp' bl'' bc' R', R'.length ≤ a + 1 → R' ++ andM (P.drop (a + 1)) (Q.drop (b + 1)) = andM P Q → Bd w w7 ip' il' ic' bp' bl'' bc' R' R' →
      F96_J2 k (fun s o ip il ic bp bl' bc i j w' => (s = some ⟨n1, 0, none⟩ ∧ o = some ⟨n2, 0, none⟩ ∧ ∃ (a b : Nat) (R : Sp), i = ((a : Nat) : Int) ∧ j = ((b : Nat) : Int) ∧ a ≤ P.length ∧ b ≤ Q.length ∧ R.length ≤ a ∧ R ++ andM (P.drop a) (Q.drop b) = andM P Q ∧ Bd w w' ip il ic bp bl' bc R R) ∧
        P.length + Q.length - i.toNat - j.toNat < P.length + Q.length - ((a : Nat) : Int).toNat - ((b : Nat) : Int).toNat) (some ⟨n1, 0, none⟩) (some ⟨n2, 0, none⟩) ip' il' ic' bp' bl'' bc' ((a : Nat) : Int) ((b : Nat) : Int) w7 := fun w7 ip' il' ic' bp' bl'' bc' R' hR' he' B7 => by
    unfold F96_J2
    refine bind_intro ?_
    rw [addI_i64 (by omega) (by omega), addI_i64 (by omega) (by omega)]
    refine ⟨⟨rfl, rfl, a + 1, b + 1, R', by omega, by omega, by omega, by omega, hR', he', B7⟩, ?_⟩
    omega
  by_cases hz : x &&& y = 0
  · rw [hz, decide_eq_false (show ¬ (((0 : Nat) : Int) > 0) by omega), BIf_false]
    refine again w6 ip il ic bp bl' bc R (by omega) ?_ B6
    rw [← he, hz]; unfold cn; rw [if_pos rfl]
  · rw [decide_eq_true (show ((x &&& y : Nat) : Int) > 0 by omega), BIf_true]
    refine B6.addI (y := x &&& y) (by omega) fun w7 ip' ic' B7 => ?_
    refine B7.addB (x := i) (by omega) fun w8 bp' bc' B8 => ?_
    refine again w8 _ _ _ _ _ _ _ (by simp; omega) ?_ B8
    rw [← he]; unfold cn; rw [if_neg hz]; simp
end
end Go.Proofs.Ytooejhmelodiaaa.E
