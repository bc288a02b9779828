/-
  Sparse bit arrays: SetBit; And, Nand.
-/
import Derived.Test.YtooejhmelodiaaaBaN
namespace Go.Proofs.Ytooejhmelodiaaa.E
open Go
set_option linter.unusedSimpArgs false
set_option linter.unusedVariables false
set_option maxRecDepth 100000
set_option maxHeartbeats 4000000

section
variable {k : Value → W} {w : World}
theorem ldO {e : TypeId} {p : Option Addr} {l c i v : Nat} {vs : List Value} {K : Int → W} (hO : Own w e p l c vs) (hv : vs[i]? = some (uv v)) (hk : K ((v : Nat) : Int) w) :
    NN p (fun a => Req (0 ≤ ((i : Nat) : Int) ∧ ((i : Nat) : Int) < ((l : Nat) : Int)) (LoadT (.int .u64) (a.add ((i : Nat) : Int).toNat) K)) w := by
  have hi := (List.getElem?_eq_some_iff.1 hv).1
  have hl := hO.1
  obtain ⟨q, rest, rfl, hB, _, _⟩ := hO.get (by omega)
  rw [NN_mk, Req_iff, Int.toNat_natCast, add_mk, Nat.zero_add]
  exact ⟨by omega, load_int hB (by rw [List.getElem?_append_left (by omega)]; exact hv) hk⟩
theorem back_ii {f : Int → Int → W} {a b : Int} (h : f a b w) : Back (.tup [(.one (.int .u64)), (.one (.int .u64))]) f (.returned (.tuple #[.int .u64 a, .int .u64 b])) w := ⟨(a, b, ()), rfl, h⟩
theorem F21_spec {n : Nat} (hn : n < 18446744073709551616) (hk : k (.tuple #[.int .u64 ((n / 64 : Nat) : Int), .int .u64 ((n % 64 : Nat) : Int)]) w) : F21 k ((n : Nat) : Int) w := by
  unfold F21
  refine ⟨by omega, by omega, ?_⟩
  rw [quoI_u64 (by omega) (by omega) (by omega), remI_eq (by omega), show ((n : Nat) : Int) / 64 = ((n / 64 : Nat) : Int) by omega, show ((n : Nat) : Int) % 64 = ((n % 64 : Nat) : Int) by omega]
  exact hk
theorem F67_spec {b r : Nat} (hb : b < 18446744073709551616) (hr : r < 64) (hk : k (uv (b ||| 2 ^ r)) w) : F67 k ((b : Nat) : Int) ((r : Nat) : Int) w := by
  unfold F67
  refine ⟨by omega, bind_intro ?_⟩
  have h2 : 2 ^ r < 18446744073709551616 := by
    have : 2 ^ r < 2 ^ 64 := Nat.pow_lt_pow_right (by decide) hr
    omega
  rw [Int.toNat_natCast, shl1_nat hr, orI_nat hb h2]
  exact hk
theorem pow_lt {r : Nat} (hr : r < 64) : 2 ^ r < 18446744073709551616 := by
  have : 2 ^ r < 2 ^ 64 := Nat.pow_lt_pow_right (by decide) hr
  omega
theorem F94_J1_spec {n bc i r y : Nat} {bp : Option Addr} {us vs : List Value} {l : Nat} (hB : Blk w n 85 us) (hu : us[0]? = some (.slice bp l bc)) (hO : Own w 65 bp l bc vs) (hv : vs[i]? = some (uv y)) (hy : y < 18446744073709551616) (hr : r < 64)
    (hk : ∀ w', Own w' 65 bp l bc (vs.set i (uv (y ||| 2 ^ r))) → Fr (fun b => bl bp b) w w' → k .nilIface w') : F94_J1 k (some ⟨n, 0, none⟩) ((r : Nat) : Int) ((i : Nat) : Int) w := by
  have hi := (List.getElem?_eq_some_iff.1 hv).1
  have hl := hO.1
  unfold F94_J1
  refine drw_intro fun w1 f1 z1 => ?_
  have hB1 := hB.fr f1 id
  have hO1 := hO.fr f1 fun _ _ => id
  rw [NN_mk]
  refine load_slice hB1 hu ?_
  rw [NN_mk]
  refine load_slice hB1 hu (ldO hO1 hv ?_)
  refine F67_call (F67_spec hy hr (back_int ?_))
  refine chk hB1 hu (chk hB1 hu ?_)
  obtain ⟨q, rest0, rfl, _, _, _⟩ := hO1.get (by omega)
  obtain ⟨rest, hQ, hqc, hqm⟩ := hO1.full
  rw [NN_mk, Req_iff, Int.toNat_natCast, add_mk, Nat.zero_add]
  refine ⟨by omega, ?_⟩
  refine store_intro hQ (by simp; omega) rfl fun w2 b2 f2 z2 => ?_
  rw [List.set_append_left _ _ hi] at b2
  exact hk w2 (Own.mk' b2 (by simp; omega) (by simpa using hqc) hqm) ((f1.mono fun _ h => h.elim).trans f2 fun b hb => .inl (bl_q.2 hb))
theorem set_mid {α : Type} {A B : List α} {x y : α} : (A ++ x :: B).set A.length y = A ++ y :: B := by
  rw [List.set_append_right _ _ (Nat.le_refl _), Nat.sub_self]; rfl
/-- SetBit. -/
theorem F94_spec {n m : Nat} {P : Sp} {F : Nat → Prop} (h : SA w n P F) (hg : Good P) (hl : P.length < 100000) (hm : m < 1152921504606846976)
    (hk : ∀ w' F', SA w' n (setP (m / 64) (2 ^ (m % 64)) P) F' → Fr F w w' → (∀ b, F' b → F b ∨ w.heap.size ≤ b) → k .nilIface w') : F94 k (some ⟨n, 0, none⟩) ((m : Nat) : Int) w := by
  obtain ⟨bp, bc, ip, ic, h, hF⟩ := h
  have nb : ∀ x, bl bp x → x ≠ n := fun x hx e => by
    obtain ⟨us, hu⟩ := h.b.blk hx
    rw [e] at hu; exact absurd (hu.unique h.a).1 (by decide)
  have ni : ∀ x, bl ip x → x ≠ n := fun x hx e => by
    obtain ⟨us, hu⟩ := h.i.blk hx
    rw [e] at hu; exact absurd (hu.unique h.a).1 (by decide)
  have nbi : ∀ x, bl bp x → ¬ bl ip x := fun x hx hy => by
    obtain ⟨us, hu⟩ := h.b.blk hx
    obtain ⟨us', hu'⟩ := h.i.blk hy
    exact absurd (hu.unique hu').1 (by decide)
  have hr : m % 64 < 64 := Nat.mod_lt _ (by decide)
  have hpl : plc (m / 64) P ≤ P.length := List.length_filter_le _ _
  unfold F94
  refine F21_call (F21_spec (by omega) (back_ii ?_))
  rw [NN_mk]
  refine F105_call (F105_spec (o := 1) h.a rfl h.i ni hl hg.s (fun w1 y f1 hy => back_ib ?_) (fun w1 ip' ic' hno hB hI hip f1 => back_ib ?_))
  · rw [BIf_false]
    have h1 := h.fr0 f1
    rcases cut (i := m / 64) hg.s with ⟨_, _, hno⟩ | ⟨b, e, eat, hmem⟩
    · exact absurd rfl (hno _ (List.mem_of_getElem? hy))
    · have hb := at_plc e
      rw [hb] at hy
      have hy : b = y := by cases hy; rfl
      subst hy
      refine F94_J1_spec (y := b) h1.a rfl h1.b (by rw [bls_get, hb]; rfl) (hg.o _ hmem).2.1 hr fun w2 o2 f2 => ?_
      have hlen : (setP (m / 64) (2 ^ (m % 64)) P).length = P.length := by
        conv => rhs; rw [e]
        unfold setP; simp
      have hlo : (lo (m / 64) P).length = (bls (lo (m / 64) P)).length := by simp
      refine hk w2 F ⟨bp, bc, ip, ic, ⟨?_, ?_, ?_⟩, hF⟩ ((f1.mono fun _ h => h.elim).trans f2 fun x hx => .inl ((hF x).2 (.inr (.inl hx)))) fun x hx => .inl hx
      · rw [hlen]; exact h1.a.fr f2 fun hx => nb n hx rfl
      · rw [hlen]
        have e2 : bls (setP (m / 64) (2 ^ (m % 64)) P) = (bls P).set (plc (m / 64) P) (uv (b ||| 2 ^ (m % 64))) := by
          have e3 : bls P = bls (lo (m / 64) P) ++ uv b :: bls (hi (m / 64) P) := (congrArg bls e).trans (bls_app _ _)
          rw [e3, show plc (m / 64) P = (bls (lo (m / 64) P)).length from hlo, set_mid]
          unfold setP
          rw [bls_app, eat]; rfl
        rw [e2]; exact o2
      · rw [hlen]
        have e2 : ixs (setP (m / 64) (2 ^ (m % 64)) P) = ixs P := by
          have e3 : ixs P = ixs (lo (m / 64) P) ++ uv (m / 64) :: ixs (hi (m / 64) P) := (congrArg ixs e).trans (ixs_app _ _)
          rw [e3]; unfold setP; rw [ixs_app]; rfl
        rw [e2]; exact h1.i.fr f2 fun x hx hy => nbi x hy hx
  · rw [BIf_true, NN_mk]
    have e : P = lo (m / 64) P ++ hi (m / 64) P ∧ at_ (m / 64) P = 0 := by
      rcases cut (i := m / 64) hg.s with ⟨a, b, _⟩ | ⟨b, _, _, hmem⟩
      · exact ⟨a, b⟩
      · exact absurd rfl (hno _ hmem)
    obtain ⟨e, eat⟩ := e
    have hB : Blk w1 n 85 [.slice bp P.length bc, .slice ip' (P.length + 1) ic'] := hB
    have hO := h.b.fr f1 fun x hx hy => by
      rcases hy with e | hy
      · exact nb x hx e
      · exact nbi x hx hy
    have hnlt := h.a.lt
    refine F106_call (F106_spec (o := 0) hB rfl hO nb hpl hl (bls_us P) fun w2 bp' bc' hB2 hO2 hbp f2 => back0 ?_)
    have hB2 : Blk w2 n 85 [.slice bp' (P.length + 1) bc', .slice ip' (P.length + 1) ic'] := hB2
    have hz1 := f1.size
    have hz2 := f2.size
    have nb' : ∀ x, bl bp' x → x ≠ n := fun x hx e => by
      rcases hbp x hx with h | h
      · exact nb x h e
      · omega
    have hpe : plc (m / 64) P = (bls (lo (m / 64) P)).length := by simp [plc]
    have e3 : bls P = bls (lo (m / 64) P) ++ bls (hi (m / 64) P) := (congrArg bls e).trans (bls_app _ _)
    have e4 : ixs P = ixs (lo (m / 64) P) ++ ixs (hi (m / 64) P) := (congrArg ixs e).trans (ixs_app _ _)
    have e5 : (bls P).take (plc (m / 64) P) ++ uv 0 :: (bls P).drop (plc (m / 64) P) = bls (lo (m / 64) P) ++ uv 0 :: bls (hi (m / 64) P) := by
      rw [hpe, e3, List.take_left, List.drop_left]
    have e6 : (ixs P).take (plc (m / 64) P) ++ uv (m / 64) :: (ixs P).drop (plc (m / 64) P) = ixs (lo (m / 64) P) ++ uv (m / 64) :: ixs (hi (m / 64) P) := by
      have hpi : plc (m / 64) P = (ixs (lo (m / 64) P)).length := by simp [plc]
      rw [hpi, e4, List.take_left, List.drop_left]
    rw [e5] at hO2
    rw [e6] at hI
    refine F94_J1_spec (y := 0) hB2 rfl hO2 (by rw [hpe, List.getElem?_append_right (Nat.le_refl _), Nat.sub_self]; rfl) (by decide) hr fun w3 o3 f3 => ?_
    rw [hpe, set_mid] at o3
    have hlen : (setP (m / 64) (2 ^ (m % 64)) P).length = P.length + 1 := by
      have := congrArg List.length e
      rw [List.length_append] at this
      unfold setP; simp; omega
    have hI2 := hI.fr f2 fun x hx hy => by
      rcases hy with e | hy
      · rcases hip x hx with h | h
        · exact ni x h e
        · omega
      · rcases hip x hx with h' | h'
        · exact nbi x hy h'
        · have := h.b.lt hy; omega
    have nbi' : ∀ x, bl bp' x → ¬ bl ip' x := fun x hx hy => by
      obtain ⟨us, hu⟩ := hO2.blk hx
      obtain ⟨us', hu'⟩ := hI2.blk hy
      exact absurd (hu.unique hu').1 (by decide)
    refine hk w3 (fun b => b = n ∨ bl bp' b ∨ bl ip' b) ⟨bp', bc', ip', ic', ⟨?_, ?_, ?_⟩, fun b => Iff.rfl⟩ ?_ fun x hx => ?_
    · rw [hlen]; exact hB2.fr f3 fun hx => nb' n hx rfl
    · rw [hlen]
      have : bls (setP (m / 64) (2 ^ (m % 64)) P) = bls (lo (m / 64) P) ++ uv (0 ||| 2 ^ (m % 64)) :: bls (hi (m / 64) P) := by
        unfold setP; rw [bls_app, eat]; rfl
      rw [this]; exact o3
    · rw [hlen]
      have : ixs (setP (m / 64) (2 ^ (m % 64)) P) = ixs (lo (m / 64) P) ++ uv (m / 64) :: ixs (hi (m / 64) P) := by
        unfold setP; rw [ixs_app]; rfl
      rw [this]; exact hI2.fr f3 fun x hx hy => nbi' x hy hx
    · refine ((f1.mono fun x hx => .inl ?_).trans f2 fun x hx => .inl ?_).trans f3 fun x hx => ?_
      · rcases hx with e | e
        · exact (hF x).2 (.inl e)
        · exact (hF x).2 (.inr (.inr e))
      · rcases hx with e | e
        · exact (hF x).2 (.inl e)
        · exact (hF x).2 (.inr (.inl e))
      · rcases hbp x hx with h | h
        · exact .inl ((hF x).2 (.inr (.inl h)))
        · exact .inr (by omega)
    · rcases hx with e | e | e
      · exact .inl ((hF x).2 (.inl e))
      · rcases hbp x e with h | h
        · exact .inl ((hF x).2 (.inr (.inl h)))
        · exact .inr (by omega)
      · rcases hip x e with h | h
        · exact .inl ((hF x).2 (.inr (.inr h)))
        · exact .inr (by omega)
end
end Go.Proofs.Ytooejhmelodiaaa.E
