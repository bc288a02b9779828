/-
  Sparse bit arrays: Or.
-/
import Derived.Test.YtooejhmelodiaaaBaR
import Derived.Test.YtooejhmelodiaaaWide
namespace Go.Proofs.Ytooejhmelodiaaa.E
open Go
set_option linter.unusedSimpArgs false
set_option linter.unusedVariables false
set_option maxRecDepth 100000
set_option maxHeartbeats 4000000

section
variable {k : Value → W} {w : World}
theorem Own.n {e : TypeId} {p : Option Addr} {l c : Nat} {vs : List Value} (h : Own w e p l c vs) : OwnN w e 1 p l c vs := by
  refine ⟨by rw [h.1, Nat.mul_one], ?_⟩
  rcases h.2 with h' | ⟨q, rest, h1, h2, h3, h4⟩
  · exact .inl h'
  · refine .inr ⟨q, rest, h1, h2, by omega, ?_, h4⟩
    have := h.1
    rw [← h3, List.length_append]; omega
theorem OwnN.one {e : TypeId} {p : Option Addr} {l c : Nat} {vs : List Value} (h : OwnN w e 1 p l c vs) : Own w e p l c vs := by
  refine ⟨by have := h.1; omega, ?_⟩
  rcases h.2 with h' | ⟨q, rest, h1, h2, h3, h4, h5⟩
  · exact .inl h'
  · exact .inr ⟨q, rest, h1, h2, by omega, h5⟩
/-- append of what another slice has from a place on. -/
theorem app_rest {e t ty : TypeId} {cs : Array Bool} {p q : Option Addr} {l c m d b : Nat} {vs us : List Value} {f : Option Addr → Nat → Nat → W} (hu : Try.prog.underlying t = some (.slice e)) (hinf : ∃ i, Try.prog.info? e = some i ∧ i.zero = some (uv 0) ∧ i.size = 1 ∧ i.bytes ≤ 4096)
    (hO : Own w e p l c vs) (hQ : Own w e q m d us) (h1 : Us us) (hb : b < m) (hl : l < 1000000) (hm : m < 1000000)
    (hk : ∀ p' c' w', Fr (fun b => bl p b) w w' → Own w' e p' (l + (m - b)) c' (vs ++ us.drop b) → (∀ b, bl p' b → bl p b ∨ w.heap.size ≤ b) → f p' (l + (m - b)) c' w') :
    NextT Try.prog (builtin .append #[t, t] ty cs [.slice p l c, .slice (sliceA q b d 1) (m - b) (d - b)].toArray) (.s (.one .slice)) f w := by
  obtain ⟨ie, g1, g2, g3, g4⟩ := hinf
  have hml := hQ.1
  obtain ⟨q', rest, rfl, hB, hqc, _⟩ := hQ.get (by omega)
  have hmd : m ≤ d := by rw [← hqc, List.length_append]; omega
  rw [sliceAi (by omega)]
  refine append_own hu g1 g2 g3 (by decide) rfl g4 hO.n (m := m - b) (news := us.drop b) (by simp; omega) (fun j u hj => ?_) (fun u hu' => h1 u (List.mem_of_mem_drop hu')) (by omega) fun p' c' w' f' o' hp' => hk p' c' w' f' o'.one hp'
  rw [List.getElem?_drop] at hj
  rw [add_mk, hQ.cell (by have := (List.getElem?_eq_some_iff.1 hj).1; omega)]; exact hj
theorem Bd.restI {w0 : World} {ip bp q : Option Addr} {il ic bl' bc d b : Nat} {R S Q : Sp} {ty : TypeId} {cs : Array Bool} {f : Option Addr → Nat → Nat → W} (h : Bd w0 w ip il ic bp bl' bc R S) (hl : R.length < 1000000) (hQ : Own w 24 q Q.length d (ixs Q)) (hb : b < Q.length) (hlq : Q.length < 1000000)
    (hk : ∀ w' ip' ic', Bd w0 w' ip' (il + (Q.length - b)) ic' bp bl' bc (R ++ Q.drop b) S → f ip' (il + (Q.length - b)) ic' w') :
    NextT Try.prog (builtin .append #[83, 83] ty cs [.slice ip il ic, .slice (sliceA q b d 1) (Q.length - b) (d - b)].toArray) (.s (.one .slice)) f w := by
  have hil : il = R.length := by have := h.i.1; simpa using this.symm
  have hz := h.f.size
  refine app_rest und83 inf24 h.i hQ (ixs_us Q) hb (by omega) hlq fun p' c' w1 f1 o1 hp' => ?_
  refine hk w1 p' c' ⟨by rw [ixs_app, ← ixs_drop]; exact o1, h.b.fr f1 fun b hb hx => h.nbi b hx hb, fun b hb => ?_, h.hb, h.f.trans f1 fun b hb => .inr (h.hi b hb)⟩
  rcases hp' b hb with h' | h'
  · exact h.hi b h'
  · omega
theorem Bd.restB {w0 : World} {ip bp q : Option Addr} {il ic bl' bc d b : Nat} {R S Q : Sp} {ty : TypeId} {cs : Array Bool} {f : Option Addr → Nat → Nat → W} (h : Bd w0 w ip il ic bp bl' bc R S) (hl : S.length < 1000000) (hQ : Own w 65 q Q.length d (bls Q)) (hb : b < Q.length) (hlq : Q.length < 1000000)
    (hk : ∀ w' bp' bc', Bd w0 w' ip il ic bp' (bl' + (Q.length - b)) bc' R (S ++ Q.drop b) → f bp' (bl' + (Q.length - b)) bc' w') :
    NextT Try.prog (builtin .append #[82, 82] ty cs [.slice bp bl' bc, .slice (sliceA q b d 1) (Q.length - b) (d - b)].toArray) (.s (.one .slice)) f w := by
  have hil : bl' = S.length := by have := h.b.1; simpa using this.symm
  have hz := h.f.size
  refine app_rest und82 inf65 h.b hQ (bls_us Q) hb (by omega) hlq fun p' c' w1 f1 o1 hp' => ?_
  refine hk w1 p' c' ⟨h.i.fr f1 fun b hb hx => h.nbi b hb hx, by rw [bls_app, ← bls_drop]; exact o1, h.hi, fun b hb => ?_, h.f.trans f1 fun b hb => .inr (h.hb b hb)⟩
  rcases hp' b hb with h' | h'
  · exact h.hb b h'
  · omega
/-- Or. -/
theorem F104_spec {n1 n2 : Nat} {P Q : Sp} {F1 F2 : Nat → Prop} (h1 : SA w n1 P F1) (h2 : SA w n2 Q F2) (hP : Good P) (hQ : Good Q) (lP : P.length < 100000) (lQ : Q.length < 100000)
    (hk : ∀ w' n F', SA w' n (orM P Q) F' → (∀ b, F' b → w.heap.size ≤ b) → Fr (fun _ => False) w w' → k (.iface 73 (.pointer (some ⟨n, 0, none⟩))) w') : F104 k (some ⟨n1, 0, none⟩) (some ⟨n2, 0, none⟩) w := by
  have s1 := h1
  have s2 := h2
  obtain ⟨bp1, bc1, ip1, ic1, h1, _⟩ := h1
  obtain ⟨bp2, bc2, ip2, ic2, h2, _⟩ := h2
  unfold F104
  rw [NN_mk]
  refine load_slice (i := 1) h2.a rfl ?_
  by_cases q0 : Q = []
  · subst q0
    rw [show (((([] : Sp).length : Nat) : Int) == 0) = true from rfl, BIf_true]
    rw [orM_nil] at hk
    exact F71_call (F71_spec s1 lP fun w' n F' a b c => back_ptr (hk w' n F' a b c))
  rw [show (((Q.length : Nat) : Int) == 0) = false by rw [beq_eq_false_iff_ne]; have := List.length_pos_iff.2 q0; omega, BIf_false, NN_mk]
  refine load_slice (i := 1) h1.a rfl ?_
  by_cases p0 : P = []
  · subst p0
    rw [show (((([] : Sp).length : Nat) : Int) == 0) = true from rfl, BIf_true]
    rw [orM_nil'] at hk
    exact F71_call (F71_spec s2 lQ fun w' n F' a b c => back_ptr (hk w' n F' a b c))
  rw [show (((P.length : Nat) : Int) == 0) = false by rw [beq_eq_false_iff_ne]; have := List.length_pos_iff.2 p0; omega, BIf_false]
  refine drw_intro fun w1 f1 z1 => ?_
  have g1 := h1.fr0 f1
  have g2 := h2.fr0 f1
  rw [NN_mk]
  refine load_slice (i := 1) g1.a rfl ?_
  rw [NN_mk]
  refine load_slice (i := 1) g2.a rfl ?_
  refine mx2 fun q w2 eq b2 f2 => ?_
  have g1 := g1.fr0 f2
  have g2 := g2.fr0 f2
  refine chk (i := 1) g2.a rfl (chk (i := 1) g1.a rfl ?_)
  refine F107_call (F107_spec b2 lP lQ fun m hm => back_int ?_)
  refine chk (i := 1) g2.a rfl (chk (i := 1) g1.a rfl ?_)
  refine mk24 0 m (by omega) (by omega) fun q1 w3 eq1 f3 o3 b3 => ?_
  refine mk65 0 m (by omega) (by omega) fun q2 w4 eq2 f4 o4 b4 => ?_
  have f04 : Fr (fun _ => False) w w4 := ((f1.trans f2 fun _ h => h.elim).trans f3 fun _ h => h.elim).trans f4 fun _ h => h.elim
  have hz2 := (f1.trans f2 fun _ h => h.elim).size
  have hz3 := f3.size
  have hBd : Bd w w4 (some ⟨q1, 0, none⟩) 0 m (some ⟨q2, 0, none⟩) 0 m [] [] := ⟨o3.fr f4 fun _ _ => id, o4, fun x hx => by rw [bl_q.1 hx]; omega, fun x hx => by rw [bl_q.1 hx]; omega, f04⟩
  refine F104_L1_rule (I := fun s o ip il ic bp bl' bc i j w' => s = some ⟨n1, 0, none⟩ ∧ o = some ⟨n2, 0, none⟩ ∧ ∃ (a b : Nat) (R : Sp), i = ((a : Nat) : Int) ∧ j = ((b : Nat) : Int) ∧ a ≤ P.length ∧ b ≤ Q.length ∧ R.length ≤ a + b ∧ R ++ orM (P.drop a) (Q.drop b) = orM P Q ∧ Bd w w' ip il ic bp bl' bc R R)
    (μ := fun s o ip il ic bp bl' bc i j w' => P.length + Q.length - i.toNat - j.toNat) ?_ ⟨rfl, rfl, 0, 0, [], rfl, rfl, Nat.zero_le _, Nat.zero_le _, Nat.zero_le _, rfl, hBd⟩
  rintro _ _ ip il ic bp bl' bc _ _ w5 ⟨rfl, rfl, a, b, R, rfl, rfl, ha, hb, hR, he, B5⟩
  have k1 := h1.fr0 B5.f
  have k2 := h2.fr0 B5.f
  unfold F104_L1
  rw [NN_mk]
  refine load_slice (i := 1) k1.a rfl ?_
  -- the end
  have fin : ∀ (w6 : World) ip' il' ic' bp' bl'' bc', Bd w w6 ip' il' ic' bp' bl'' bc' (orM P Q) (orM P Q) → F104_J2 k ip' il' ic' bp' bl'' bc' w6 := fun w6 ip' il' ic' bp' bl'' bc' B6 => by
    unfold F104_J2
    exact B6.fin hk
  by_cases e1 : a = P.length
  · subst e1
    rw [show (((P.length : Nat) : Int) == ((P.length : Nat) : Int)) = true from beq_self_eq_true _, BIf_true, NN_mk]
    refine load_slice (i := 1) k2.a rfl ?_
    unfold F104_J1
    rw [List.drop_length, orM_nil'] at he
    by_cases e2 : b = Q.length
    · subst e2
      rw [show (((Q.length : Nat) : Int) == ((Q.length : Nat) : Int)) = true from beq_self_eq_true _, BIf_true]
      rw [List.drop_length, List.append_nil] at he
      subst he
      exact fin w5 _ _ _ _ _ _ B5
    · rw [show (((b : Nat) : Int) == ((Q.length : Nat) : Int)) = false by rw [beq_eq_false_iff_ne]; omega, BIf_false, NN_mk]
      refine load_slice (i := 1) k1.a rfl ?_
      rw [show (((P.length : Nat) : Int) == ((P.length : Nat) : Int)) = true from beq_self_eq_true _, BIf_true, NN_mk]
      refine load_slice (i := 1) k2.a rfl ⟨by omega, ?_⟩
      rw [Int.toNat_natCast]
      refine B5.restI (by omega) k2.i (by omega) (by omega) fun w6 ip' ic' B6 => ?_
      have k2 := h2.fr0 B6.f
      rw [NN_mk]
      refine load_slice (i := 0) k2.a rfl ⟨by omega, ?_⟩
      refine B6.restB (by omega) k2.b (by omega) (by omega) fun w7 bp' bc' B7 => ?_
      rw [he] at B7
      exact fin w7 _ _ _ _ _ _ B7
  rw [show (((a : Nat) : Int) == ((P.length : Nat) : Int)) = false by rw [beq_eq_false_iff_ne]; omega, BIf_false]
  unfold F104_J1
  rw [BIf_false, NN_mk]
  refine load_slice (i := 1) k1.a rfl ?_
  rw [show (((a : Nat) : Int) == ((P.length : Nat) : Int)) = false by rw [beq_eq_false_iff_ne]; omega, BIf_false, NN_mk]
  refine load_slice (i := 1) k2.a rfl ?_
  by_cases e2 : b = Q.length
  · subst e2
    rw [show (((Q.length : Nat) : Int) == ((Q.length : Nat) : Int)) = true from beq_self_eq_true _, BIf_true, NN_mk]
    rw [List.drop_length, orM_nil] at he
    refine load_slice (i := 1) k1.a rfl ⟨by omega, ?_⟩
    rw [Int.toNat_natCast]
    refine B5.restI (by omega) k1.i (by omega) (by omega) fun w6 ip' ic' B6 => ?_
    have k1 := h1.fr0 B6.f
    rw [NN_mk]
    refine load_slice (i := 0) k1.a rfl ⟨by omega, ?_⟩
    refine B6.restB (by omega) k1.b (by omega) (by omega) fun w7 bp' bc' B7 => ?_
    rw [he] at B7
    exact fin w7 _ _ _ _ _ _ B7
  rw [show (((b : Nat) : Int) == ((Q.length : Nat) : Int)) = false by rw [beq_eq_false_iff_ne]; omega, BIf_false, NN_mk]
  have hp : P[a]? = some (P[a]'(by omega)) := List.getElem?_eq_getElem (by omega)
  generalize P[a]'(by omega) = p at hp
  obtain ⟨i, x⟩ := p
  have hq : Q[b]? = some (Q[b]'(by omega)) := List.getElem?_eq_getElem (by omega)
  generalize Q[b]'(by omega) = q0 at hq
  obtain ⟨j, y⟩ := q0
  obtain ⟨_, hx, hi⟩ := hP.o _ (List.mem_of_getElem? hp)
  obtain ⟨_, hy, hj⟩ := hQ.o _ (List.mem_of_getElem? hq)
  have hx : x < 18446744073709551616 := hx
  have hi : i < 18014398509481984 := hi
  have hy : y < 18446744073709551616 := hy
  have hj : j < 18014398509481984 := hj
  rw [drop_cons hp, drop_cons hq, orM] at he
  refine load_slice (i := 1) k1.a rfl (ldO k1.i (by rw [ixs_get, hp]; rfl) ?_)
  rw [NN_mk]
  refine load_slice (i := 1) k2.a rfl (ldO k2.i (by rw [ixs_get, hq]; rfl) ?_)
  refine bind_intro ?_
  rw [wrap_i64 (by omega) (by omega), wrap_i64 (by omega) (by omega), subI_i64 (by omega) (by omega)]
  by_cases c1 : i < j
  · rw [decide_eq_true (show ((j : Nat) : Int) - ((i : Nat) : Int) > 0 by omega), BIf_true]
    rw [if_pos c1, ← drop_cons hq] at he
    refine B5.addI (y := x) (by omega) fun w6 ip' ic' B6 => ?_
    have k1 := h1.fr0 B6.f
    rw [NN_mk]
    refine load_slice (i := 0) k1.a rfl (ldO k1.b (by rw [bls_get, hp]; rfl) ?_)
    refine B6.addB (x := i) (by omega) fun w7 bp' bc' B7 => ?_
    rw [addI_i64 (by omega) (by omega)]
    refine ⟨⟨rfl, rfl, a + 1, b, R ++ [(i, x)], by omega, rfl, by omega, hb, by simp; omega, by rw [← he]; simp, B7⟩, ?_⟩
    omega
  rw [decide_eq_false (show ¬ ((j : Nat) : Int) - ((i : Nat) : Int) > 0 by omega), BIf_false]
  rw [if_neg c1] at he
  by_cases c2 : j < i
  · rw [decide_eq_true (show ((j : Nat) : Int) - ((i : Nat) : Int) < 0 by omega), BIf_true]
    rw [if_pos c2, ← drop_cons hp] at he
    refine B5.addI (y := y) (by omega) fun w6 ip' ic' B6 => ?_
    have k2 := h2.fr0 B6.f
    rw [NN_mk]
    refine load_slice (i := 0) k2.a rfl (ldO k2.b (by rw [bls_get, hq]; rfl) ?_)
    refine B6.addB (x := j) (by omega) fun w7 bp' bc' B7 => ?_
    refine bind_intro ?_
    rw [addI_i64 (by omega) (by omega)]
    refine ⟨⟨rfl, rfl, a, b + 1, R ++ [(j, y)], rfl, by omega, ha, by omega, by simp; omega, by rw [← he]; simp, B7⟩, ?_⟩
    omega
  rw [decide_eq_false (show ¬ ((j : Nat) : Int) - ((i : Nat) : Int) < 0 by omega), BIf_false]
  rw [if_neg c2] at he
  have hij : j = i := by omega
  subst hij
  refine B5.addI (y := x ||| y) (by omega) fun w6 ip' ic' B6 => ?_
  refine drw_intro fun w7 f7 z7 => ?_
  have B7 := B6.fr0 f7
  have k1 := h1.fr0 B7.f
  have k2 := h2.fr0 B7.f
  obtain ⟨qa, ra, e3, hA, _, _⟩ := k1.b.get (by omega)
  obtain ⟨qb, rb, e4, hBq, _, _⟩ := k2.b.get (by omega)
  have cA : (bls P ++ ra)[a]? = some (uv x) := by rw [List.getElem?_append_left (by simp; omega), bls_get, hp]; rfl
  have cB : (bls Q ++ rb)[b]? = some (uv y) := by rw [List.getElem?_append_left (by simp; omega), bls_get, hq]; rfl
  subst e3 e4
  rw [NN_mk]
  refine load_slice (i := 0) k1.a rfl ?_
  rw [NN_mk, Req_iff, Int.toNat_natCast, add_mk, Nat.zero_add]
  refine ⟨by omega, load_int hA cA ?_⟩
  rw [NN_mk]
  refine load_slice (i := 0) k2.a rfl ?_
  rw [NN_mk, Req_iff, Int.toNat_natCast, add_mk, Nat.zero_add]
  refine ⟨by omega, load_int hBq cB ?_⟩
  refine F80_call ?_
  unfold F80
  rw [orI_nat hx hy]
  refine back_int (chk (i := 0) k2.a rfl (chk (i := 0) k1.a rfl ?_))
  obtain ⟨ie, g1', g2', g3', g4'⟩ := inf65
  -- the block is made, then appended: what lies between is looked at once more
  have hil : bl' = R.length := by have := B7.b.1; simpa using this.symm
  refine build_intro und82 g1' g2' (by omega) (by omega) (cells := [uv (x ||| y)]) ?_ fun w8 f8 b8 z8 => ?_
  · rw [g3']
    show Instr.fill _ ((Array.range (1 * 1)).map _) [(0, uv (x ||| y))] = _
    unfold uv
    generalize (((x ||| y : Nat)) : Int) = v
    kernel_rfl
  have B8 := B7.fr0 f8
  have k1 := h1.fr0 B8.f
  have k2 := h2.fr0 B8.f
  have hA8 := hA.fr f8 id
  have hB8 := hBq.fr f8 id
  refine chk hB8 cB (chk (i := 0) k2.a rfl (chk hA8 cA (chk (i := 0) k1.a rfl ?_)))
  refine append_own und82 g1' g2' g3' (by decide) rfl g4' B8.b.n (m := 1) (news := [uv (x ||| y)]) rfl (fun j u hj => by rw [add_mk, Nat.zero_add, b8.cell]; exact hj) (fun u hu => by rw [List.mem_singleton] at hu; subst hu; rfl) (by omega) fun p' c' w9 f9 o9 hp9 => ?_
  have B9 : Bd w w9 ip' (il + 1) ic' p' (bl' + 1) c' (R ++ [(j, x ||| y)]) (R ++ [(j, x ||| y)]) := by
    have hz8 := B8.f.size
    refine ⟨B8.i.fr f9 fun b hb hx => B8.nbi b hb hx, by rw [bls_app]; exact o9.one, B8.hi, fun b hb => ?_, B8.f.trans f9 fun b hb => .inr (B8.hb b hb)⟩
    rcases hp9 b hb with h' | h'
    · exact B8.hb b h'
    · omega
  have k1 := h1.fr0 B9.f
  have k2 := h2.fr0 B9.f
  have hA9 := hA8.fr f9 fun hx => by have := B8.hb _ hx; have := h1.b.lt (b := qa) ⟨_, rfl, rfl⟩; omega
  have hB9 := hB8.fr f9 fun hx => by have := B8.hb _ hx; have := h2.b.lt (b := qb) ⟨_, rfl, rfl⟩; omega
  refine chk hB9 cB (chk (i := 0) k2.a rfl (chk hA9 cA (chk (i := 0) k1.a rfl ?_)))
  refine bind_intro ?_
  rw [addI_i64 (by omega) (by omega), addI_i64 (by omega) (by omega)]
  refine ⟨⟨rfl, rfl, a + 1, b + 1, R ++ [(j, x ||| y)], by omega, by omega, by omega, by omega, by simp; omega, by rw [← he]; simp, B9⟩, ?_⟩
  omega
end
end Go.Proofs.Ytooejhmelodiaaa.E
