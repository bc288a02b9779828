/-
  Caches: answers held against each other; an example; what is asked of the arguments.
-/
import Derived.Test.YtmaejciimpnogaaDoorCaT
import Derived.Test.YtmaejciimpnogaaDoorFnsC
namespace Go.Proofs.YtmaejciimpnogaaDoor.E
open Go
set_option linter.unusedSimpArgs false
set_option linter.unusedVariables false
set_option maxRecDepth 100000
set_option maxHeartbeats 16000000

def scI (n : Nat) (x : Int × Int) : Int × Int := (x.1 * ((n : Nat) : Int), x.2)
def scS (n : Nat) (s : Sd) : Sd := ⟨s.items.map (scI n), s.has, s.size * n⟩
/-- Answers small enough. -/
def SmI (x : Int × Int) : Prop := 0 ≤ x.1 ∧ x.1 < 100000
def SmS (s : Sd) : Prop := (∀ x ∈ s.items, SmI x) ∧ s.items.length < 1000 ∧ s.has.length < 1000 ∧ s.size < 100000
theorem ent17 : ∀ args w, (callFunc 17 args).run Tryd.prog w = .ok (.enter 17 args) w := enters_of Tryd.func17 (by kernel_rfl) rfl
theorem ent19 : ∀ args w, (callFunc 19 args).run Tryd.prog w = .ok (.enter 19 args) w := enters_of Tryd.func19 (by kernel_rfl) rfl
section
variable {w : World} {k : Value → W}
theorem mul_small {a : Int} {n : Nat} (h : 0 ≤ a ∧ a < 100000) (hn : n < 1000) : mulI .i64 a ((n : Nat) : Int) = a * ((n : Nat) : Int) := by
  have h1 : 0 ≤ a * ((n : Nat) : Int) := Int.mul_nonneg h.1 (by omega)
  have h2 : a * ((n : Nat) : Int) ≤ 100000 * 1000 := Int.mul_le_mul (by omega) (by omega) (by omega) (by omega)
  exact mulI_i64 (by omega) (by omega)
theorem F18_spec {p q : Option Addr} {c d a n : Nat} {I : List (Int × Int)} (hP : Sl IK w p I) (hQ : Sl IK w q (I.map (scI n))) (hb : Blk w a 3 [.int .i64 ((n : Nat) : Int)]) (hn : n < 1000) (hI : ∀ x ∈ I, SmI x) (hl : I.length < 1000)
    (hk : ∀ w', Fr (fun _ => False) w w' → k (.bool true) w') : F18 k p I.length c q (I.map (scI n)).length d (.func (.func 19) #[] #[.pointer (some ⟨a, 0, none⟩)]) w := by
  unfold F18
  rw [List.length_map, show (((I.length : Nat) : Int) != ((I.length : Nat) : Int)) = false by simp, BIf_false]
  refine F18_L1_rule (I := fun q' m d' e p' l c' x i w' => q' = q ∧ m = I.length ∧ e = .func (.func 19) #[] #[.pointer (some ⟨a, 0, none⟩)] ∧ p' = p ∧ l = I.length ∧ x = ((I.length : Nat) : Int) ∧ ∃ t : Nat, i = ((t : Nat) : Int) ∧ t ≤ I.length ∧ Fr (fun _ => False) w w') (μ := fun q' m d' e p' l c' x i w' => I.length - i.toNat) ?_ ⟨rfl, rfl, rfl, rfl, rfl, rfl, 0, rfl, Nat.zero_le _, Fr.refl _ _⟩
  rintro q' m d' _ p' l c' _ i w1 ⟨e1, e2, rfl, e3, e4, rfl, t, rfl, ht, f1⟩
  obtain rfl := e1.symm
  obtain rfl := e3.symm
  unfold F18_L1
  rw [e2, e4]
  by_cases hlt : t < I.length
  · rw [decide_eq_true (show ((t : Nat) : Int) < ((I.length : Nat) : Int) by omega), BIf_true]
    have hx : I[t]? = some I[t] := List.getElem?_eq_getElem hlt
    have hxm : I[t] ∈ I := List.getElem_mem hlt
    generalize I[t] = x at hx hxm
    obtain ⟨qp, o, rfl, g0, g1⟩ := (hP.fr0 f1).get hx
    have hy : (I.map (scI n))[t]? = some (scI n x) := by rw [List.getElem?_map, hx]; rfl
    simp only [NN_mk, Int.toNat_natCast, add_mk]
    refine ⟨by omega, LoadT_int.2 ⟨_, g0, LoadT_int.2 ⟨_, g1, ?_⟩⟩⟩
    refine new_intro fun n13 w2 e2 b2 f2 z2 => store_intro (i := 0) b2 (by simp) rfl fun w3 b3 f3 z3 => store_intro (i := 1) b3 (by simp) rfl fun w4 b4 f4 z4 => ?_
    have f14 : Fr (fun _ => False) w1 w4 := (((f2.mono (S' := fun b => b = n13) fun _ h => h.elim).trans f3 fun _ h => .inl h).trans f4 fun _ h => .inl h).mono fun b h => .inr (by have h : b = n13 := h; omega)
    obtain ⟨qq, oq, rfl, u0, u1⟩ := ((hQ.fr0 f1).fr0 f14).get hy
    simp only [NN_mk, Int.toNat_natCast, add_mk]
    refine ⟨by omega, LoadT_int.2 ⟨_, u0, LoadT_int.2 ⟨_, u1, ?_⟩⟩⟩
    have s14 := f14.size
    refine new_intro fun n17 w5 e5 b5 f5 z5 => store_intro (i := 0) b5 (by simp) rfl fun w6 b6 f6 z6 => store_intro (i := 1) b6 (by simp) rfl fun w7 b7 f7 z7 => ?_
    have f47 : Fr (fun _ => False) w4 w7 := (((f5.mono (S' := fun b => b = n17) fun _ h => h.elim).trans f6 fun _ h => .inl h).trans f7 fun _ h => .inl h).mono fun b h => .inr (by have h : b = n17 := h; omega)
    have b4' : Blk w7 n13 27 [.int .i64 x.1, .int .i64 x.2] := Blk.fr b4 f47 id
    have b7' : Blk w7 n17 27 [.int .i64 (scI n x).1, .int .i64 (scI n x).2] := b7
    refine load_int (i := 0) b4' rfl (load_int (i := 1) b4' rfl (load_int (i := 0) b7' rfl (load_int (i := 1) b7' rfl ?_)))
    refine NextT_enter (callV_enter ent19) (F19_calls ?_)
    unfold F19
    refine new_intro fun n1 w8 e8 b8 f8 z8 => new_intro fun n2 w9 e9 b9 f9 z9 => ?_
    have b8 := b8.fr f9 id
    refine load_int (i := 1) b8 rfl (load_int (i := 1) b9 rfl ?_)
    rw [show (x.2 == (scI n x).2) = true by simp [scI], BIf_true]
    have f19 : Fr (fun _ => False) w1 w9 := ((f14.trans f47 fun _ h => h.elim).trans f8 fun _ h => h.elim).trans f9 fun _ h => h.elim
    refine load_int (i := 0) b8 rfl (load_int (i := 0) ((hb.fr f1 id).fr f19 id) rfl (load_int (i := 0) b9 rfl (bind_intro ?_)))
    rw [mul_small (hI x hxm) hn, show (x.1 * ((n : Nat) : Int) == (scI n x).1) = true by simp [scI]]
    refine back_bool ?_
    rw [Bool.not_true, BIf_false, addI_i64 (by omega) (by omega)]
    refine ⟨⟨by trivial, by trivial, by trivial, by trivial, by trivial, by trivial, t + 1, by omega, hlt, f1.trans f19 fun _ h => h.elim⟩, ?_⟩
    show I.length - (((t : Nat) : Int) + 1).toNat < I.length - ((t : Nat) : Int).toNat
    omega
  · rw [decide_eq_false (show ¬ ((t : Nat) : Int) < ((I.length : Nat) : Int) by omega), BIf_false]
    exact hk w1 f1
theorem F15_spec {p q : Option Addr} {c d : Nat} {H : List Bool} (hP : Sl BK w p H) (hQ : Sl BK w q H) (hl : H.length < 1000) (hk : ∀ w', Fr (fun _ => False) w w' → k (.bool true) w') : F15 k p H.length c q H.length d w := by
  unfold F15
  rw [show (((H.length : Nat) : Int) != ((H.length : Nat) : Int)) = false by simp, BIf_false]
  refine F15_L1_rule (I := fun p' l c' q' m d' x i w' => p' = p ∧ l = H.length ∧ q' = q ∧ m = H.length ∧ x = ((H.length : Nat) : Int) ∧ ∃ t : Nat, i = ((t : Nat) : Int) ∧ t ≤ H.length ∧ Fr (fun _ => False) w w') (μ := fun p' l c' q' m d' x i w' => H.length - i.toNat) ?_ ⟨rfl, rfl, rfl, rfl, rfl, 0, rfl, Nat.zero_le _, Fr.refl _ _⟩
  rintro p' l c' q' m d' _ i w1 ⟨e1, e2, e3, e4, rfl, t, rfl, ht, f1⟩
  obtain rfl := e1.symm
  obtain rfl := e3.symm
  unfold F15_L1
  rw [e2, e4]
  by_cases hlt : t < H.length
  · rw [decide_eq_true (show ((t : Nat) : Int) < ((H.length : Nat) : Int) by omega), BIf_true]
    refine drw_intro fun w2 f2 z2 => ?_
    have f02 := f1.trans f2 fun _ h => h.elim
    have hx : H[t]? = some H[t] := List.getElem?_eq_getElem hlt
    generalize H[t] = x at hx
    obtain ⟨qp, o, rfl, g0⟩ := (hP.fr0 f02).get hx
    obtain ⟨qq, oq, rfl, u0⟩ := (hQ.fr0 f02).get hx
    have g0 : w2.cell? ⟨qp, o + t, none⟩ = some (.bool x) := by
      have : w2.cell? ⟨qp, o + t * 1 + 0, none⟩ = some (.bool x) := g0
      rw [show o + t * 1 + 0 = o + t by omega] at this; exact this
    have u0 : w2.cell? ⟨qq, oq + t, none⟩ = some (.bool x) := by
      have : w2.cell? ⟨qq, oq + t * 1 + 0, none⟩ = some (.bool x) := u0
      rw [show oq + t * 1 + 0 = oq + t by omega] at this; exact this
    simp only [NN_mk, Int.toNat_natCast, add_mk]
    refine ⟨by omega, LoadT_bool.2 ⟨_, g0, ⟨by omega, LoadT_bool.2 ⟨_, u0, ?_⟩⟩⟩⟩
    rw [show (!(x == x)) = false by simp, BIf_false, addI_i64 (by omega) (by omega)]
    refine ⟨⟨by trivial, by trivial, by trivial, by trivial, by trivial, t + 1, by omega, hlt, f02⟩, ?_⟩
    show H.length - (((t : Nat) : Int) + 1).toNat < H.length - ((t : Nat) : Int).toNat
    omega
  · rw [decide_eq_false (show ¬ ((t : Nat) : Int) < ((H.length : Nat) : Int) by omega), BIf_false]
    exact hk w1 f1
/-- dcSame. -/
theorem F9_spec {p q : Option Addr} {c d n : Nat} {X : List Sd} (hP : Sl SaK w p X) (hQ : Sl SaK w q (X.map (scS n))) (hn : n < 1000) (hX : ∀ s ∈ X, SmS s) (hl : X.length < 1000)
    (hk : ∀ w', Fr (fun _ => False) w w' → k (.bool true) w') : F9 k p X.length c q (X.map (scS n)).length d ((n : Nat) : Int) w := by
  unfold F9
  refine new_intro fun a w0 e0 b0 f0 z0 => ?_
  refine F16_call ?_
  unfold F16
  rw [List.length_map, show (((X.length : Nat) : Int) != ((X.length : Nat) : Int)) = false by simp, BIf_false]
  refine F16_L1_rule (I := fun q' m d' e p' l c' x i w' => q' = q ∧ m = X.length ∧ e = .func (.func 17) #[] #[.pointer (some ⟨a, 0, none⟩)] ∧ p' = p ∧ l = X.length ∧ x = ((X.length : Nat) : Int) ∧ ∃ t : Nat, i = ((t : Nat) : Int) ∧ t ≤ X.length ∧ Fr (fun _ => False) w0 w') (μ := fun q' m d' e p' l c' x i w' => X.length - i.toNat) ?_ ⟨rfl, rfl, rfl, rfl, rfl, rfl, 0, rfl, Nat.zero_le _, Fr.refl _ _⟩
  rintro q' m d' _ p' l c' _ i w1 ⟨e1, e2, rfl, e3, e4, rfl, t, rfl, ht, f01⟩
  obtain rfl := e1.symm
  obtain rfl := e3.symm
  have f1 := f0.trans f01 fun _ h => h.elim
  unfold F16_L1
  rw [e2, e4]
  by_cases hlt : t < X.length
  · rw [decide_eq_true (show ((t : Nat) : Int) < ((X.length : Nat) : Int) by omega), BIf_true]
    have hx : X[t]? = some X[t] := List.getElem?_eq_getElem hlt
    have hxm : X[t] ∈ X := List.getElem_mem hlt
    generalize X[t] = x at hx hxm
    obtain ⟨hxi, hxil, hxhl, hxs⟩ := hX x hxm
    have hy : (X.map (scS n))[t]? = some (scS n x) := by rw [List.getElem?_map, hx]; rfl
    obtain ⟨qp, o, rfl, ip, ic, hp, hc, g0, g1, g2, gI, gH⟩ := (hP.fr0 f1).get hx
    simp only [NN_mk, Int.toNat_natCast, add_mk]
    refine ⟨by omega, LoadT_slice.2 ⟨_, _, _, g0, LoadT_slice.2 ⟨_, _, _, g1, LoadT_int.2 ⟨_, g2, ?_⟩⟩⟩⟩
    refine new_intro fun n14 w2 e2 b2 f2 z2 => store_intro (i := 0) b2 (by simp) rfl fun w3 b3 f3 z3 => store_intro (i := 1) b3 (by simp) rfl fun w4 b4 f4 z4 => store_intro (i := 2) b4 (by simp) rfl fun w5 b5 f5 z5 => ?_
    have f15 : Fr (fun _ => False) w1 w5 := ((((f2.mono (S' := fun b => b = n14) fun _ h => h.elim).trans f3 fun _ h => .inl h).trans f4 fun _ h => .inl h).trans f5 fun _ h => .inl h).mono fun b h => .inr (by have h : b = n14 := h; omega)
    obtain ⟨qq, oq, rfl, ip', ic', hp', hc', u0, u1, u2, uI, uH⟩ := ((hQ.fr0 f1).fr0 f15).get hy
    simp only [NN_mk, Int.toNat_natCast, add_mk]
    refine ⟨by omega, LoadT_slice.2 ⟨_, _, _, u0, LoadT_slice.2 ⟨_, _, _, u1, LoadT_int.2 ⟨_, u2, ?_⟩⟩⟩⟩
    have s15 := f15.size
    refine new_intro fun n19 w6 e6 b6 f6 z6 => store_intro (i := 0) b6 (by simp) rfl fun w7 b7 f7 z7 => store_intro (i := 1) b7 (by simp) rfl fun w8 b8 f8 z8 => store_intro (i := 2) b8 (by simp) rfl fun w9 b9 f9 z9 => ?_
    have f59 : Fr (fun _ => False) w5 w9 := ((((f6.mono (S' := fun b => b = n19) fun _ h => h.elim).trans f7 fun _ h => .inl h).trans f8 fun _ h => .inl h).trans f9 fun _ h => .inl h).mono fun b h => .inr (by have h : b = n19 := h; omega)
    have b5' : Blk w9 n14 35 [.slice ip x.items.length ic, .slice hp x.has.length hc, .int .i64 ((x.size : Nat) : Int)] := Blk.fr b5 f59 id
    have b9' : Blk w9 n19 35 [.slice ip' (scS n x).items.length ic', .slice hp' (scS n x).has.length hc', .int .i64 (((scS n x).size : Nat) : Int)] := b9
    refine load_slice (i := 0) b5' rfl (load_slice (i := 1) b5' rfl (load_int (i := 2) b5' rfl (load_slice (i := 0) b9' rfl (load_slice (i := 1) b9' rfl (load_int (i := 2) b9' rfl ?_)))))
    refine NextT_enter (callV_enter ent17) (F17_calls ?_)
    unfold F17
    refine new_intro fun n1 w10 e10 b10 f10 z10 => new_intro fun n2 w11 e11 b11 f11 z11 => ?_
    have b10 := b10.fr f11 id
    have f1b : Fr (fun _ => False) w1 w11 := ((f15.trans f59 fun _ h => h.elim).trans f10 fun _ h => h.elim).trans f11 fun _ h => h.elim
    have f5b : Fr (fun _ => False) w5 w11 := (f59.trans f10 fun _ h => h.elim).trans f11 fun _ h => h.elim
    refine load_slice (i := 0) b10 rfl (load_slice (i := 0) b11 rfl ?_)
    have ba := ((b0.fr f01 id).fr f1b id)
    refine F18_call (F18_spec (n := n) (gI.fr0 f1b) (uI.fr0 f5b) ba hn hxi hxil fun w12 f12 => back_bool ?_)
    rw [BIf_true]
    refine load_slice (i := 1) (b10.fr f12 id) rfl (load_slice (i := 1) (b11.fr f12 id) rfl ?_)
    refine F15_call (F15_spec (H := x.has) ((gH.fr0 f1b).fr0 f12) ((uH.fr0 f5b).fr0 f12) hxhl fun w13 f13 => back_bool ?_)
    rw [BIf_true]
    have f113 := (f1b.trans f12 fun _ h => h.elim).trans f13 fun _ h => h.elim
    refine load_int (i := 2) ((b10.fr f12 id).fr f13 id) rfl (load_int (i := 0) ((ba.fr f12 id).fr f13 id) rfl (load_int (i := 2) ((b11.fr f12 id).fr f13 id) rfl (bind_intro ?_)))
    rw [mul_small ⟨by omega, by omega⟩ hn, show (((x.size : Nat) : Int) * ((n : Nat) : Int) == (((scS n x).size : Nat) : Int)) = true by simp [scS]]
    refine back_bool ?_
    rw [Bool.not_true, BIf_false, addI_i64 (by omega) (by omega)]
    refine ⟨⟨by trivial, by trivial, by trivial, by trivial, by trivial, by trivial, t + 1, by omega, hlt, f01.trans f113 fun _ h => h.elim⟩, ?_⟩
    show X.length - (((t : Nat) : Int) + 1).toNat < X.length - ((t : Nat) : Int).toNat
    omega
  · rw [decide_eq_false (show ¬ ((t : Nat) : Int) < ((X.length : Nat) : Int) by omega), BIf_false]
    exact back_bool (hk w1 f1)
end
end Go.Proofs.YtmaejciimpnogaaDoor.E
