/-
  Sparse bit arrays: Count, ToNums.
-/
import Derived.Test.YtooejhmelodiaaaBaS
namespace Go.Proofs.Ytooejhmelodiaaa.E
open Go
set_option linter.unusedSimpArgs false
set_option linter.unusedVariables false
set_option maxRecDepth 100000
set_option maxHeartbeats 4000000

theorem msk_lit : msk 85 8 = 6148914691236517205 ∧ msk 51 8 = 3689348814741910323 ∧ msk 15 8 = 1085102592571150095 := by decide
theorem addI_nat {x y : Nat} (h : x + y < 18446744073709551616) : addI .u64 (x : Int) y = ((x + y : Nat) : Int) := by rw [addI_u64 (by omega) (by omega)]; omega
/-- OnesCount64. -/
theorem F58_spec {x : Nat} {k : Value → W} {w : World} (hx : x < 18446744073709551616) (hk : k (.int .i64 (cnt 64 x.testBit)) w) : F58 k x w := by
  unfold F58
  obtain ⟨l1, l2, l3⟩ := msk_lit
  have s1 : shrI .u64 (x : Int) 1 = ((x / 2 : Nat) : Int) := shr_nat .u64 (by decide)
  have a1 : andI .u64 ((x / 2 : Nat) : Int) 6148914691236517205 = ((x / 2 &&& msk 85 8 : Nat) : Int) := by rw [l1]; exact andI_nat (by omega) (by decide)
  have a2 : andI .u64 (x : Int) 6148914691236517205 = ((x &&& msk 85 8 : Nat) : Int) := by rw [l1]; exact andI_nat (by omega) (by decide)
  have b1 : x / 2 &&& msk 85 8 ≤ 6148914691236517205 := by rw [l1]; exact Nat.and_le_right
  have b2 : x &&& msk 85 8 ≤ 6148914691236517205 := by rw [l1]; exact Nat.and_le_right
  have c1 : addI .u64 ((x / 2 &&& msk 85 8 : Nat) : Int) ((x &&& msk 85 8 : Nat) : Int) = ((stA 8 x : Nat) : Int) := addI_nat (by omega)
  have d1 : stA 8 x < 18446744073709551616 := by unfold stA; omega
  simp only [Bind_iff, s1, a1, a2, c1]
  generalize hA : stA 8 x = A at *
  have s2 : shrI .u64 (A : Int) 2 = ((A / 4 : Nat) : Int) := shr_nat .u64 (by decide)
  have a3 : andI .u64 ((A / 4 : Nat) : Int) 3689348814741910323 = ((A / 4 &&& msk 51 8 : Nat) : Int) := by rw [l2]; exact andI_nat (by omega) (by decide)
  have a4 : andI .u64 (A : Int) 3689348814741910323 = ((A &&& msk 51 8 : Nat) : Int) := by rw [l2]; exact andI_nat (by omega) (by decide)
  have b3 : A / 4 &&& msk 51 8 ≤ 3689348814741910323 := by rw [l2]; exact Nat.and_le_right
  have b4 : A &&& msk 51 8 ≤ 3689348814741910323 := by rw [l2]; exact Nat.and_le_right
  have c2 : addI .u64 ((A / 4 &&& msk 51 8 : Nat) : Int) ((A &&& msk 51 8 : Nat) : Int) = ((stB 8 A : Nat) : Int) := addI_nat (by omega)
  have d2 : stB 8 A ≤ 7378697629483820646 := by unfold stB; omega
  simp only [s2, a3, a4, c2]
  generalize hB : stB 8 A = B at *
  have s3 : shrI .u64 (B : Int) 4 = ((B / 16 : Nat) : Int) := shr_nat .u64 (by decide)
  have c3 : addI .u64 ((B / 16 : Nat) : Int) (B : Int) = ((B / 16 + B : Nat) : Int) := addI_nat (by omega)
  have a5 : andI .u64 ((B / 16 + B : Nat) : Int) 1085102592571150095 = ((stC 8 B : Nat) : Int) := by unfold stC; rw [l3]; exact andI_nat (by omega) (by decide)
  have b5 : stC 8 B ≤ 1085102592571150095 := by unfold stC; rw [l3]; exact Nat.and_le_right
  simp only [s3, c3, a5]
  obtain ⟨q1, q2, q3, q4⟩ := swar (x := x) rfl rfl rfl
  rw [hA, hB] at q1 q2 q3 q4
  generalize stC 8 B = C at *
  have s4 : shrI .u64 (C : Int) 8 = ((C / 256 : Nat) : Int) := shr_nat .u64 (by decide)
  have c4 : addI .u64 (C : Int) ((C / 256 : Nat) : Int) = ((C + C / 256 : Nat) : Int) := addI_nat q2
  simp only [s4, c4]
  generalize C + C / 256 = y at *
  have s5 : shrI .u64 (y : Int) 16 = ((y / 65536 : Nat) : Int) := shr_nat .u64 (by decide)
  have c5 : addI .u64 (y : Int) ((y / 65536 : Nat) : Int) = ((y + y / 65536 : Nat) : Int) := addI_nat q3
  simp only [s5, c5]
  generalize y + y / 65536 = z at *
  have s6 : shrI .u64 (z : Int) 32 = ((z / 4294967296 : Nat) : Int) := shr_nat .u64 (by decide)
  have c6 : addI .u64 (z : Int) ((z / 4294967296 : Nat) : Int) = ((z + z / 4294967296 : Nat) : Int) := addI_nat (by omega)
  simp only [s6, c6]
  generalize z + z / 4294967296 = u at *
  have w1 : IntKind.wrap .i64 (u : Int) = (u : Int) := wrap_i64 (by omega) (by omega)
  have a6 : andI .i64 (u : Int) 127 = ((u % 128 : Nat) : Int) := by
    have := andI_i64_nat q4 (show 127 < 9223372036854775808 by decide)
    rw [show ((127 : Nat) : Int) = 127 from rfl] at this
    rw [this, show (127 : Nat) = 2 ^ 7 - 1 from rfl, Nat.and_two_pow_sub_one_eq_mod]
  rw [w1, a6, q1]
  exact hk


section
variable {k : Value → W} {w : World}
theorem take_snoc' {P : Sp} {t : Nat} {p : Nat × Nat} (h : P[t]? = some p) : P.take (t + 1) = P.take t ++ [p] := take_snoc h
theorem tot_snoc (P : Sp) (p : Nat × Nat) : tot (P ++ [p]) = tot P + pop p.2 := by simp [tot]
/-- Count. -/
theorem F85_spec {n : Nat} {P : Sp} {F : Nat → Prop} (h : SA w n P F) (hP : Good P) (lP : P.length < 100000) (hk : k (.int .i64 ((tot P : Nat) : Int)) w) : F85 k (some ⟨n, 0, none⟩) w := by
  obtain ⟨bp, bc, ip, ic, h, hF⟩ := h
  unfold F85
  rw [NN_mk]
  refine load_slice (i := 0) h.a rfl ?_
  refine F85_L1_rule (I := fun s p l c m j w' => p = bp ∧ l = P.length ∧ c = bc ∧ m = ((P.length : Nat) : Int) ∧ w' = w ∧ ∃ t : Nat, j = ((t : Nat) : Int) ∧ t ≤ P.length ∧ s = ((tot (P.take t) : Nat) : Int)) (μ := fun s p l c m j w' => P.length - j.toNat) ?_ ⟨rfl, rfl, rfl, rfl, rfl, 0, rfl, Nat.zero_le _, rfl⟩
  rintro _ _ l c m j w1 ⟨rfl, e1, e2, rfl, rfl, t, rfl, ht, rfl⟩
  unfold F85_L1
  rw [e1]
  by_cases hlt : t < P.length
  · rw [decide_eq_true (show ((t : Nat) : Int) < ((P.length : Nat) : Int) by omega), BIf_true]
    have hp : P[t]? = some P[t] := List.getElem?_eq_getElem hlt
    generalize P[t] = p at hp
    refine ldO h.b (by rw [bls_get, hp]; rfl) ?_
    have h1 := tot_le (P.take t)
    have h2 := pop_le p.2
    rw [List.length_take] at h1
    refine F58_call (F58_spec (hP.o _ (List.mem_of_getElem? hp)).2.1 (back_int ?_))
    rw [addI_i64 (by unfold pop at h2; omega) (by unfold pop at h2; omega), addI_i64 (by omega) (by omega)]
    refine ⟨⟨rfl, rfl, e2, rfl, rfl, t + 1, by omega, hlt, ?_⟩, ?_⟩
    · rw [take_snoc hp, tot_snoc]; unfold pop; omega
    · show P.length - (((t : Nat) : Int) + 1).toNat < P.length - ((t : Nat) : Int).toNat
      omega
  · rw [decide_eq_false (show ¬ ((t : Nat) : Int) < ((P.length : Nat) : Int) by omega), BIf_false]
    have : t = P.length := by omega
    subst this
    rw [List.take_length]; exact hk
def us (X : List Nat) : List Value := X.map uv
theorem us_app (X Y : List Nat) : us (X ++ Y) = us X ++ us Y := List.map_append
@[simp] theorem us_len (X : List Nat) : (us X).length = X.length := List.length_map ..
theorem und22 : Try.prog.underlying 22 = some (.slice 24) := by kernel_rfl
/-- toNums of one block. -/
theorem F68_spec {b off n c : Nat} {p : Option Addr} {X : List Nat} (hB : Blk w n 22 [.slice p X.length c]) (hO : Own w 24 p X.length c (us X)) (hpn : ∀ x, bl p x → x ≠ n) (hb : b < 18446744073709551616) (ho : off < 9223372036854775808) (hX : X.length < 100000000)
    (hk : ∀ w' p' c', Blk w' n 22 [.slice p' (X ++ (bitsOf b).map (· + off)).length c'] → Own w' 24 p' (X ++ (bitsOf b).map (· + off)).length c' (us (X ++ (bitsOf b).map (· + off))) → (∀ x, bl p' x → bl p x ∨ w.heap.size ≤ x) → Fr (fun x => x = n ∨ bl p x) w w' → k (.tuple #[]) w') :
    F68 k ((b : Nat) : Int) ((off : Nat) : Int) (some ⟨n, 0, none⟩) w := by
  have hnlt := hB.lt
  unfold F68
  refine F68_L1_rule (I := fun b' o' n' i w' => b' = ((b : Nat) : Int) ∧ o' = ((off : Nat) : Int) ∧ n' = some ⟨n, 0, none⟩ ∧ ∃ (t : Nat) (Y : List Nat) (p' : Option Addr) (c' : Nat), i = ((t : Nat) : Int) ∧ t ≤ 64 ∧ Y = X ++ ((List.range t).filter fun i => b.testBit i).map (· + off) ∧ Y.length ≤ X.length + t ∧ Blk w' n 22 [.slice p' Y.length c'] ∧ Own w' 24 p' Y.length c' (us Y) ∧ (∀ x, bl p' x → bl p x ∨ w.heap.size ≤ x) ∧ Fr (fun x => x = n ∨ bl p x) w w')
    (μ := fun b' o' n' i w' => 64 - i.toNat) ?_ ⟨rfl, rfl, rfl, 0, X, p, c, rfl, Nat.zero_le _, by simp, Nat.le_refl _, hB, hO, fun x hx => .inl hx, Fr.refl _ _⟩
  rintro _ _ _ _ w1 ⟨rfl, rfl, rfl, t, Y, p', c', rfl, ht, hY, hYl, hB1, hO1, hp', f1⟩
  unfold F68_L1
  by_cases hlt : t < 64
  · rw [decide_eq_true (show ((t : Nat) : Int) < 64 by omega), BIf_true]
    refine ⟨by omega, ?_⟩
    have h2 := pow_lt hlt
    rw [Int.toNat_natCast, shl1_nat hlt, andI_nat hb h2]
    have hbit : decide ((((b &&& 2 ^ t : Nat)) : Int) > 0) = b.testBit t := by
      rw [← and_two_pow_ne]; exact decide_eq_decide.2 (by omega)
    rw [hbit, addI_u64 (a := ((t : Nat) : Int)) (b := ((off : Nat) : Int)) (by omega) (by omega), addI_u64 (by omega) (by omega)]
    have hr : ((List.range (t + 1)).filter fun i => b.testBit i) = ((List.range t).filter fun i => b.testBit i) ++ (if b.testBit t then [t] else []) := by
      rw [List.range_succ, List.filter_append]
      congr 1
      cases h : b.testBit t <;> simp [h]
    cases h : b.testBit t with
    | false =>
      rw [BIf_false]
      rw [h] at hr
      refine ⟨⟨rfl, rfl, rfl, t + 1, Y, p', c', by omega, hlt, by rw [hr, hY]; simp, by omega, hB1, hO1, hp', f1⟩, ?_⟩
      show 64 - (((t : Nat) : Int) + 1).toNat < 64 - ((t : Nat) : Int).toNat
      omega
    | true =>
      rw [BIf_true, NN_mk]
      rw [h] at hr
      refine load_slice (i := 0) hB1 rfl ?_
      obtain ⟨ie, g1, g2, g3, g4⟩ := inf24
      have hpn' : ∀ x, bl p' x → x ≠ n := fun x hx e => by
        rcases hp' x hx with h | h
        · exact hpn x h e
        · omega
      rw [show ((t : Nat) : Int) + ((off : Nat) : Int) = ((t + off : Nat) : Int) by omega]
      refine append1 (P := Try.prog) und22 g1 g2 g3 rfl g4 hO1 (v := uv (t + off)) rfl rfl (by omega) fun p2 c2 w2 f2 o2 hp2 z2 => ?_
      have hB2 := hB1.fr f2 fun hx => hpn' n hx rfl
      rw [NN_mk]
      refine store_intro (i := 0) hB2 (by simp) rfl fun w3 b3 f3 z3 => ?_
      have hz1 := f1.size
      have el : (Y ++ [t + off]).length = Y.length + 1 := by simp
      refine ⟨⟨rfl, rfl, rfl, t + 1, Y ++ [t + off], p2, c2, by omega, hlt, by rw [hr, hY]; simp, by rw [el]; omega, by rw [el]; exact b3, ?_, fun x hx => ?_, (f1.trans f2 fun x hx => ?_).trans f3 fun x hx => .inl (.inl hx)⟩, ?_⟩
      · rw [el, us_app]
        refine o2.fr f3 fun x hx e => ?_
        have e : x = n := e
        rcases hp2 x hx with h | h
        · exact hpn' x h e
        · have := hB1.lt; omega
      · rcases hp2 x hx with h | h
        · exact hp' x h
        · exact .inr (by omega)
      · rcases hp' x hx with h | h
        · exact .inl (.inr h)
        · exact .inr h
      · show 64 - (((t : Nat) : Int) + 1).toNat < 64 - ((t : Nat) : Int).toNat
        omega
  · rw [decide_eq_false (show ¬ ((t : Nat) : Int) < 64 by omega), BIf_false]
    have : t = 64 := by omega
    subst this
    subst hY
    exact hk w1 p' c' hB1 hO1 hp' f1
theorem nums_snoc (P : Sp) (p : Nat × Nat) : nums (P ++ [p]) = nums P ++ (bitsOf p.2).map (· + p.1 * 64) := by simp [nums]
/-- ToNums. -/
theorem F95_spec {n : Nat} {P : Sp} {F : Nat → Prop} (h : SA w n P F) (hP : Good P) (lP : P.length < 100000) (hk : ∀ w' p c, Own w' 24 p (tot P) c (us (nums P)) → (∀ b, bl p b → w.heap.size ≤ b) → Fr (fun _ => False) w w' → k (.slice p (tot P) c) w') : F95 k (some ⟨n, 0, none⟩) w := by
  obtain ⟨bp, bc, ip, ic, h, hF⟩ := h
  unfold F95
  rw [NN_mk]
  refine load_slice (i := 1) h.a rfl ?_
  by_cases h0 : P = []
  · subst h0
    rw [show (((([] : Sp).length : Nat) : Int) == 0) = true from rfl, BIf_true]
    exact hk w none 0 (Own.nil _ _) (fun b ⟨_, h, _⟩ => by cases h) (Fr.refl _ _)
  have hpos := List.length_pos_iff.2 h0
  rw [show (((P.length : Nat) : Int) == 0) = false by rw [beq_eq_false_iff_ne]; omega, BIf_false, NN_mk]
  refine load_slice (i := 1) h.a rfl (bind_intro ⟨by omega, ?_⟩)
  rw [wrap_u64 (by omega) (by omega), mulI_u64 (by omega) (by omega), quoI_u64 (by omega) (by omega) (by omega), show ((P.length : Nat) : Int) * 64 / 4 = ((P.length * 16 : Nat) : Int) by omega]
  obtain ⟨ie, g1, g2, g3, g4⟩ := inf24
  refine make_intro 0 (P.length * 16) und22 g1 g2 g3 rfl (by omega) (by omega) (by omega) fun w1 f1 o1 b1 z1 => ?_
  generalize hq : w.heap.size = q at *
  refine new_intro fun n8 w2 e2 b2 f2 z2 => ?_
  have o2 := o1.fr f2 fun _ _ => id
  refine store_intro (i := 0) b2 (by simp) rfl fun w3 b3 f3 z3 => ?_
  have b3 : Blk w3 n8 22 [.slice (some ⟨q, 0, none⟩) ([] : List Nat).length (P.length * 16)] := b3
  have o3 : Own w3 24 (some ⟨q, 0, none⟩) ([] : List Nat).length (P.length * 16) (us []) := o2.fr f3 fun x hx e => by rw [bl_q.1 hx] at e; have e : q = n8 := e; omega
  have f03 : Fr (fun _ => False) w w3 := (f1.trans f2 fun _ h => h.elim).trans f3 fun x hx => .inr (by have hx : x = n8 := hx; omega)
  have g := h.fr0 f03
  rw [NN_mk]
  refine load_slice (i := 1) g.a rfl ?_
  refine F95_L1_rule (I := fun s m8 p l c m j w' => s = some ⟨n, 0, none⟩ ∧ m8 = ⟨n8, 0, none⟩ ∧ p = ip ∧ l = P.length ∧ c = ic ∧ m = ((P.length : Nat) : Int) ∧ ∃ (t : Nat) (p' : Option Addr) (c' : Nat), j = ((t : Nat) : Int) ∧ t ≤ P.length ∧ Blk w' n8 22 [.slice p' (nums (P.take t)).length c'] ∧ Own w' 24 p' (nums (P.take t)).length c' (us (nums (P.take t))) ∧ (∀ x, bl p' x → q ≤ x ∧ x ≠ n8) ∧ Fr (fun _ => False) w w')
    (μ := fun s m8 p l c m j w' => P.length - j.toNat) ?_ ⟨rfl, rfl, rfl, rfl, rfl, rfl, 0, _, _, rfl, Nat.zero_le _, b3, o3, fun x hx => by rw [bl_q.1 hx]; omega, f03⟩
  rintro _ _ _ l c m j w4 ⟨rfl, rfl, rfl, e1, e2, rfl, t, p', c', rfl, ht, B4, O4, hp4, f4⟩
  have g := h.fr0 f4
  unfold F95_L1
  rw [e1]
  by_cases hlt : t < P.length
  · rw [decide_eq_true (show ((t : Nat) : Int) < ((P.length : Nat) : Int) by omega), BIf_true]
    have hp : P[t]? = some P[t] := List.getElem?_eq_getElem hlt
    generalize P[t] = p at hp
    obtain ⟨i, x⟩ := p
    obtain ⟨_, hx, hi⟩ := hP.o _ (List.mem_of_getElem? hp)
    have hx : x < 18446744073709551616 := hx
    have hi : i < 18014398509481984 := hi
    refine ldO g.i (by rw [ixs_get, hp]; rfl) ?_
    rw [NN_mk]
    refine load_slice (i := 0) g.a rfl (ldO g.b (by rw [bls_get, hp]; rfl) ?_)
    rw [mulI_u64 (by omega) (by omega), show ((i : Nat) : Int) * 64 = ((i * 64 : Nat) : Int) by omega]
    have hnl := nums_len (P.take t)
    have htl := tot_le (P.take t)
    rw [List.length_take] at htl
    refine F68_call (F68_spec B4 O4 (fun x hx => (hp4 x hx).2) hx (by omega) (by omega) fun w5 p5 c5 B5 O5 hp5 f5 => back0 ?_)
    have hz4 := f4.size
    have hB4 := B4.lt
    rw [addI_i64 (by omega) (by omega)]
    have hns : nums (P.take (t + 1)) = nums (P.take t) ++ (bitsOf x).map (· + i * 64) := by rw [take_snoc hp, nums_snoc]
    refine ⟨⟨rfl, rfl, rfl, rfl, e2, rfl, t + 1, p5, c5, by omega, hlt, by rw [hns]; exact B5, by rw [hns]; exact O5, fun y hy => ?_, f4.trans f5 fun y hy => .inr ?_⟩, ?_⟩
    · rcases hp5 y hy with h | h
      · exact hp4 y h
      · omega
    · rcases hy with e | e
      · omega
      · have := (hp4 y e).1; omega
    · show P.length - (((t : Nat) : Int) + 1).toNat < P.length - ((t : Nat) : Int).toNat
      omega
  · rw [decide_eq_false (show ¬ ((t : Nat) : Int) < ((P.length : Nat) : Int) by omega), BIf_false]
    have : t = P.length := by omega
    subst this
    rw [List.take_length] at B4 O4
    rw [nums_len] at B4 O4
    refine load_slice (i := 0) B4 rfl ?_
    exact hk w4 p' c' O4 (fun b hb => by have := (hp4 b hb).1; omega) f4
end
end Go.Proofs.Ytooejhmelodiaaa.E
