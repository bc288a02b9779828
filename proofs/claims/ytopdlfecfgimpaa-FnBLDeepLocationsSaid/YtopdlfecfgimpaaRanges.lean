/-
  The law FnBSDeepRanges, walked. The straight parts were printed by this session's own program aw.py.
-/
import Derived.Test.YtopdlfecfgimpaaBV2
import Derived.Test.YtopdlfecfgimpaaFlip
namespace Go.Proofs.Ytopdlfecfgimpaa.E
open Go
set_option linter.unusedSimpArgs false
set_option linter.unusedVariables false
set_option maxRecDepth 100000

theorem L_same {n m : Nat} {f g : Nat → Bool} (h : ∀ j, f j = g j) (hf : ∀ j, f j = true → j < n) (hg : ∀ j, g j = true → j < m) : L n f = L m g := by
  have e : f = g := funext h
  subst e
  rcases Nat.le_total n m with h | h
  · exact (L_more h hf).symm
  · exact L_more h hg
theorem cnt_rg {i k n : Nat} (h1 : i ≤ k) (h2 : k ≤ n) : cnt n (rg i k) = k - i := by
  have h : ∀ m, cnt m (rg i k) = min m k - min m i := by
    intro m
    induction m with
    | zero => simp [cnt]
    | succ m ih =>
      simp only [cnt, ih]
      cases hr : rg i k m with
      | true => rw [rg_iff] at hr; simp; omega
      | false =>
        have : ¬ (i ≤ m ∧ m < k) := fun h => by rw [rg_iff.2 h] at hr; cases hr
        simp; omega
  rw [h n]; omega

theorem F8_spec {x l c a m : Nat} {p : Option Addr} {k : Value → W} {w : World} (hx : x < 18446744073709551616) (hr : Reads w p l) (ha : a < 65536) (hm : m < 65536)
    (hk : ∀ w', Fr (fun _ => False) w w' → k (.bool true) w') : F8 k x p l c a m w := by
  unfold F8
  refine new_intro fun n5 w1 e1 bn5 f1 z1 => ?_
  have fr := f1
  replace hr := hr.fr0 f1
  refine load_int bn5 rfl ?_
  refine load_slice bn5 rfl ?_
  refine F12_call (F12_spec fun fit1 w2 f2 hfit1 => back_bool ?_)
  replace fr := fr.trans f2 fun _ h => h.elim
  have z2 := f2.size
  replace hr := hr.fr0 f2
  replace bn5 := bn5.fr f2 id
  refine BIf_intro (fun hc => hk _ fr) (fun hc => ?_)
  have hl := hfit1 (by simpa using hc)
  refine load_int bn5 rfl ?_
  refine load_slice bn5 rfl ?_
  refine F13_call (C13 hx hr hl fun n_a f_a p_a c_a w3 hn_a hs_a f3 => back_bits ?_)
  replace fr := fr.trans f3 fun _ h => h.elim
  have z3 := f3.size
  replace hr := hr.fr0 f3
  replace bn5 := bn5.fr f3 id
  refine ⟨by decide, ?_⟩
  refine new_intro fun n13 w4 e4 bn13 f4 z4 => ?_
  replace fr := fr.trans f4 fun _ h => h.elim
  replace hs_a := hs_a.fr0 f4
  replace bn5 := bn5.fr f4 id
  refine store_intro bn13 (by simp) rfl fun w5 bn13 f5 z5 => ?_
  replace fr := fr.trans f5 fun x (e : x = n13) => .inr (by omega)
  replace hs_a := hs_a.st f5 (by omega)
  replace bn5 := bn5.fr f5 (show ¬ n5 = n13 by omega)
  refine store_intro bn13 (by simp) rfl fun w6 bn13 f6 z6 => ?_
  replace fr := fr.trans f6 fun x (e : x = n13) => .inr (by omega)
  replace hs_a := hs_a.st f6 (by omega)
  replace bn5 := bn5.fr f6 (show ¬ n5 = n13 by omega)
  refine bind_intro ?_
  have ei : remI (IntKind.wrap .u64 (a : Int)) 500 = ((a % 500 : Nat) : Int) := by rw [wrap_u64 (by omega) (by omega), remI_eq (by omega)]; omega
  rw [ei]
  have hi : a % 500 < 500 := Nat.mod_lt _ (by decide)
  generalize a % 500 = i at hi
  refine ⟨by decide, ?_⟩
  refine bind_intro ?_
  have ek : remI (IntKind.wrap .u64 (m : Int)) 300 = ((m % 300 : Nat) : Int) := by rw [wrap_u64 (by omega) (by omega), remI_eq (by omega)]; omega
  rw [ek, show addI .u64 (addI .u64 (i : Int) 1) ((m % 300 : Nat) : Int) = ((i + 1 + m % 300 : Nat) : Int) by rw [show addI .u64 (i : Int) 1 = ((i + 1 : Nat) : Int) from addI_nat (y := 1) (by omega), addI_nat (by omega)]]
  have hk1 : m % 300 < 300 := Nat.mod_lt _ (by decide)
  generalize hj : i + 1 + m % 300 = kk
  refine F22_call (C22 (n := 0) (by omega) fun p_e c_e w7 hs_e f7 => back_bits ?_)
  generalize ef_e : (fun _ : Nat => false) = f_e at hs_e ⊢
  replace fr := fr.trans f7 fun _ h => h.elim
  have z7 := f7.size
  replace hs_a := hs_a.fr0 f7
  replace bn5 := bn5.fr f7 id
  replace bn13 := bn13.fr f7 id
  refine F33_call (C33  (by omega) hs_e (by omega) (by omega) fun p_r c_r w8 hs_r f8 => back_bits ?_)
  generalize en_r : (max 0 kk) = n_r at hs_r ⊢
  generalize ef_r : (fun j => f_e j || rg i kk j) = f_r at hs_r ⊢
  replace fr := fr.trans f8 fun _ h => h.elim
  have z8 := f8.size
  replace hs_a := hs_a.fr0 f8
  replace hs_e := hs_e.fr0 f8
  replace bn5 := bn5.fr f8 id
  replace bn13 := bn13.fr f8 id
  refine new_intro fun n20 w9 e9 bn20 f9 z9 => ?_
  replace fr := fr.trans f9 fun _ h => h.elim
  replace hs_a := hs_a.fr0 f9
  replace hs_e := hs_e.fr0 f9
  replace hs_r := hs_r.fr0 f9
  replace bn5 := bn5.fr f9 id
  replace bn13 := bn13.fr f9 id
  refine store_intro bn20 (by simp) rfl fun w10 bn20 f10 z10 => ?_
  replace fr := fr.trans f10 fun x (e : x = n20) => .inr (by omega)
  replace hs_a := hs_a.st f10 (by omega)
  replace hs_e := hs_e.st f10 (by omega)
  replace hs_r := hs_r.st f10 (by omega)
  replace bn5 := bn5.fr f10 (show ¬ n5 = n20 by omega)
  replace bn13 := bn13.fr f10 (show ¬ n13 = n20 by omega)
  refine store_intro bn20 (by simp) rfl fun w11 bn20 f11 z11 => ?_
  replace fr := fr.trans f11 fun x (e : x = n20) => .inr (by omega)
  replace hs_a := hs_a.st f11 (by omega)
  replace hs_e := hs_e.st f11 (by omega)
  replace hs_r := hs_r.st f11 (by omega)
  replace bn5 := bn5.fr f11 (show ¬ n5 = n20 by omega)
  replace bn13 := bn13.fr f11 (show ¬ n13 = n20 by omega)
  refine load_int bn13 rfl ?_
  refine load_slice bn13 rfl ?_
  refine load_int bn20 rfl ?_
  refine load_slice bn20 rfl ?_
  refine F25_call (C25  (by omega) hs_a (by omega) hs_r fun p_b c_b w12 hs_b f12 => back_bits ?_)
  generalize en_b : (max n_a n_r) = n_b at hs_b ⊢
  generalize ef_b : (fun j => f_a j || f_r j) = f_b at hs_b ⊢
  replace fr := fr.trans f12 fun _ h => h.elim
  have z12 := f12.size
  replace hs_a := hs_a.fr0 f12
  replace hs_e := hs_e.fr0 f12
  replace hs_r := hs_r.fr0 f12
  replace bn5 := bn5.fr f12 id
  replace bn13 := bn13.fr f12 id
  replace bn20 := bn20.fr f12 id
  refine new_intro fun n27 w13 e13 bn27 f13 z13 => ?_
  replace fr := fr.trans f13 fun _ h => h.elim
  replace hs_a := hs_a.fr0 f13
  replace hs_e := hs_e.fr0 f13
  replace hs_r := hs_r.fr0 f13
  replace hs_b := hs_b.fr0 f13
  replace bn5 := bn5.fr f13 id
  replace bn13 := bn13.fr f13 id
  replace bn20 := bn20.fr f13 id
  refine store_intro bn27 (by simp) rfl fun w14 bn27 f14 z14 => ?_
  replace fr := fr.trans f14 fun x (e : x = n27) => .inr (by omega)
  replace hs_a := hs_a.st f14 (by omega)
  replace hs_e := hs_e.st f14 (by omega)
  replace hs_r := hs_r.st f14 (by omega)
  replace hs_b := hs_b.st f14 (by omega)
  replace bn5 := bn5.fr f14 (show ¬ n5 = n27 by omega)
  replace bn13 := bn13.fr f14 (show ¬ n13 = n27 by omega)
  replace bn20 := bn20.fr f14 (show ¬ n20 = n27 by omega)
  refine store_intro bn27 (by simp) rfl fun w15 bn27 f15 z15 => ?_
  replace fr := fr.trans f15 fun x (e : x = n27) => .inr (by omega)
  replace hs_a := hs_a.st f15 (by omega)
  replace hs_e := hs_e.st f15 (by omega)
  replace hs_r := hs_r.st f15 (by omega)
  replace hs_b := hs_b.st f15 (by omega)
  replace bn5 := bn5.fr f15 (show ¬ n5 = n27 by omega)
  replace bn13 := bn13.fr f15 (show ¬ n13 = n27 by omega)
  replace bn20 := bn20.fr f15 (show ¬ n20 = n27 by omega)
  refine drw_intro fun w16 f16 z16 => ?_
  replace fr := fr.trans f16 fun _ h => h.elim
  replace hs_a := hs_a.fr0 f16
  replace hs_e := hs_e.fr0 f16
  replace hs_r := hs_r.fr0 f16
  replace hs_b := hs_b.fr0 f16
  replace bn5 := bn5.fr f16 id
  replace bn13 := bn13.fr f16 id
  replace bn20 := bn20.fr f16 id
  replace bn27 := bn27.fr f16 id
  refine load_int bn20 rfl ?_
  refine load_slice bn20 rfl ?_
  refine F30_call (C30  (by omega) hs_r fun w17 f17 => back_int ?_)
  replace fr := fr.trans f17 fun _ h => h.elim
  have z17 := f17.size
  replace hs_a := hs_a.fr0 f17
  replace hs_e := hs_e.fr0 f17
  replace hs_r := hs_r.fr0 f17
  replace hs_b := hs_b.fr0 f17
  replace bn5 := bn5.fr f17 id
  replace bn13 := bn13.fr f17 id
  replace bn20 := bn20.fr f17 id
  replace bn27 := bn27.fr f17 id
  have ec : cnt n_r f_r = kk - i := by
    rw [← en_r, ← ef_r, ← ef_e, cnt_congr (g := rg i kk) (fun t _ => by simp), cnt_rg (by omega) (by omega)]
  rw [ec, subI_u64 (by omega) (by omega), show (((kk - i : Nat) : Int)) = (kk : Int) - (i : Int) by omega, beq_self_eq_true, BIf_true]
  refine load_int bn13 rfl ?_
  refine load_slice bn13 rfl ?_
  refine load_int bn27 rfl ?_
  refine load_slice bn27 rfl ?_
  refine F33_call (C33  (by omega) hs_a (by omega) (by omega) fun p_s c_s w18 hs_s f18 => back_bits ?_)
  generalize en_s : (max n_a kk) = n_s at hs_s ⊢
  generalize ef_s : (fun j => f_a j || rg i kk j) = f_s at hs_s ⊢
  replace fr := fr.trans f18 fun _ h => h.elim
  have z18 := f18.size
  replace hs_a := hs_a.fr0 f18
  replace hs_e := hs_e.fr0 f18
  replace hs_r := hs_r.fr0 f18
  replace hs_b := hs_b.fr0 f18
  replace bn5 := bn5.fr f18 id
  replace bn13 := bn13.fr f18 id
  replace bn20 := bn20.fr f18 id
  replace bn27 := bn27.fr f18 id
  refine Chk1_iff.2 ⟨by rw [bn27.cell]; rfl, ?_⟩
  refine Chk1_iff.2 ⟨by rw [bn27.cell]; rfl, ?_⟩
  refine Chk1_iff.2 ⟨by rw [bn20.cell]; rfl, ?_⟩
  refine Chk1_iff.2 ⟨by rw [bn20.cell]; rfl, ?_⟩
  refine F16_call (F16_spec hs_s.sees hs_b.sees (by have := L_length_le n_s f_s; omega) fun w19 f19 => back_bool ?_)
  replace fr := fr.trans f19 fun _ h => h.elim
  have z19 := f19.size
  replace hs_a := hs_a.fr0 f19
  replace hs_e := hs_e.fr0 f19
  replace hs_r := hs_r.fr0 f19
  replace hs_b := hs_b.fr0 f19
  replace hs_s := hs_s.fr0 f19
  replace bn5 := bn5.fr f19 id
  replace bn13 := bn13.fr f19 id
  replace bn20 := bn20.fr f19 id
  replace bn27 := bn27.fr f19 id
  refine Chk1_iff.2 ⟨by rw [bn13.cell]; rfl, ?_⟩
  refine Chk1_iff.2 ⟨by rw [bn13.cell]; rfl, ?_⟩
  refine Chk1_iff.2 ⟨by rw [bn20.cell]; rfl, ?_⟩
  refine Chk1_iff.2 ⟨by rw [bn20.cell]; rfl, ?_⟩
  rw [decide_eq_true (L_same (fun j => by rw [← ef_s, ← ef_b, ← ef_r, ← ef_e]; simp) hs_s.lt hs_b.lt), BIf_true]
  refine load_int bn13 rfl ?_
  refine load_slice bn13 rfl ?_
  refine load_int bn13 rfl ?_
  refine load_slice bn13 rfl ?_
  refine load_int bn20 rfl ?_
  refine load_slice bn20 rfl ?_
  refine F34_call (C34  (by omega) hs_a (by omega) (by omega) fun p_t c_t w20 hs_t f20 => back_bits ?_)
  generalize en_t : (max n_a kk) = n_t at hs_t ⊢
  generalize ef_t : (fun j => f_a j ^^ rg i kk j) = f_t at hs_t ⊢
  replace fr := fr.trans f20 fun _ h => h.elim
  have z20 := f20.size
  replace hs_a := hs_a.fr0 f20
  replace hs_e := hs_e.fr0 f20
  replace hs_r := hs_r.fr0 f20
  replace hs_b := hs_b.fr0 f20
  replace hs_s := hs_s.fr0 f20
  replace bn5 := bn5.fr f20 id
  replace bn13 := bn13.fr f20 id
  replace bn20 := bn20.fr f20 id
  replace bn27 := bn27.fr f20 id
  refine Chk1_iff.2 ⟨by rw [bn20.cell]; rfl, ?_⟩
  refine Chk1_iff.2 ⟨by rw [bn20.cell]; rfl, ?_⟩
  refine Chk1_iff.2 ⟨by rw [bn13.cell]; rfl, ?_⟩
  refine Chk1_iff.2 ⟨by rw [bn13.cell]; rfl, ?_⟩
  refine Chk1_iff.2 ⟨by rw [bn27.cell]; rfl, ?_⟩
  refine Chk1_iff.2 ⟨by rw [bn27.cell]; rfl, ?_⟩
  refine Chk1_iff.2 ⟨by rw [bn13.cell]; rfl, ?_⟩
  refine Chk1_iff.2 ⟨by rw [bn13.cell]; rfl, ?_⟩
  refine Chk1_iff.2 ⟨by rw [bn20.cell]; rfl, ?_⟩
  refine Chk1_iff.2 ⟨by rw [bn20.cell]; rfl, ?_⟩
  refine F35_call (C35  (by omega) hs_a (by omega) hs_r fun p_u c_u w21 hs_u f21 => back_bits ?_)
  generalize en_u : (max n_a n_r) = n_u at hs_u ⊢
  generalize ef_u : (fun j => f_a j ^^ f_r j) = f_u at hs_u ⊢
  replace fr := fr.trans f21 fun _ h => h.elim
  have z21 := f21.size
  replace hs_a := hs_a.fr0 f21
  replace hs_e := hs_e.fr0 f21
  replace hs_r := hs_r.fr0 f21
  replace hs_b := hs_b.fr0 f21
  replace hs_s := hs_s.fr0 f21
  replace hs_t := hs_t.fr0 f21
  replace bn5 := bn5.fr f21 id
  replace bn13 := bn13.fr f21 id
  replace bn20 := bn20.fr f21 id
  replace bn27 := bn27.fr f21 id
  refine Chk1_iff.2 ⟨by rw [bn13.cell]; rfl, ?_⟩
  refine Chk1_iff.2 ⟨by rw [bn13.cell]; rfl, ?_⟩
  refine Chk1_iff.2 ⟨by rw [bn27.cell]; rfl, ?_⟩
  refine Chk1_iff.2 ⟨by rw [bn27.cell]; rfl, ?_⟩
  refine Chk1_iff.2 ⟨by rw [bn13.cell]; rfl, ?_⟩
  refine Chk1_iff.2 ⟨by rw [bn13.cell]; rfl, ?_⟩
  refine Chk1_iff.2 ⟨by rw [bn20.cell]; rfl, ?_⟩
  refine Chk1_iff.2 ⟨by rw [bn20.cell]; rfl, ?_⟩
  refine F16_call (F16_spec hs_t.sees hs_u.sees (by have := L_length_le n_t f_t; omega) fun w22 f22 => back_bool ?_)
  replace fr := fr.trans f22 fun _ h => h.elim
  have z22 := f22.size
  replace hs_a := hs_a.fr0 f22
  replace hs_e := hs_e.fr0 f22
  replace hs_r := hs_r.fr0 f22
  replace hs_b := hs_b.fr0 f22
  replace hs_s := hs_s.fr0 f22
  replace hs_t := hs_t.fr0 f22
  replace hs_u := hs_u.fr0 f22
  replace bn5 := bn5.fr f22 id
  replace bn13 := bn13.fr f22 id
  replace bn20 := bn20.fr f22 id
  replace bn27 := bn27.fr f22 id
  refine Chk1_iff.2 ⟨by rw [bn20.cell]; rfl, ?_⟩
  refine Chk1_iff.2 ⟨by rw [bn20.cell]; rfl, ?_⟩
  refine Chk1_iff.2 ⟨by rw [bn13.cell]; rfl, ?_⟩
  refine Chk1_iff.2 ⟨by rw [bn13.cell]; rfl, ?_⟩
  refine Chk1_iff.2 ⟨by rw [bn13.cell]; rfl, ?_⟩
  refine Chk1_iff.2 ⟨by rw [bn13.cell]; rfl, ?_⟩
  refine Chk1_iff.2 ⟨by rw [bn27.cell]; rfl, ?_⟩
  refine Chk1_iff.2 ⟨by rw [bn27.cell]; rfl, ?_⟩
  refine Chk1_iff.2 ⟨by rw [bn13.cell]; rfl, ?_⟩
  refine Chk1_iff.2 ⟨by rw [bn13.cell]; rfl, ?_⟩
  refine Chk1_iff.2 ⟨by rw [bn20.cell]; rfl, ?_⟩
  refine Chk1_iff.2 ⟨by rw [bn20.cell]; rfl, ?_⟩
  rw [decide_eq_true (L_same (fun j => by rw [← ef_t, ← ef_u, ← ef_r, ← ef_e]; simp) hs_t.lt hs_u.lt), BIf_true]
  refine load_int bn27 rfl ?_
  refine load_slice bn27 rfl ?_
  refine load_int bn20 rfl ?_
  refine load_slice bn20 rfl ?_
  refine load_int bn13 rfl ?_
  refine load_slice bn13 rfl ?_
  refine load_int bn20 rfl ?_
  refine load_slice bn20 rfl ?_
  refine F36_call (C36  (by omega) hs_b (by omega) hs_r fun p_v c_v w23 hs_v f23 => back_bits ?_)
  generalize ef_v : (fun j => f_b j && !f_r j) = f_v at hs_v ⊢
  replace fr := fr.trans f23 fun _ h => h.elim
  have z23 := f23.size
  replace hs_a := hs_a.fr0 f23
  replace hs_e := hs_e.fr0 f23
  replace hs_r := hs_r.fr0 f23
  replace hs_b := hs_b.fr0 f23
  replace hs_s := hs_s.fr0 f23
  replace hs_t := hs_t.fr0 f23
  replace hs_u := hs_u.fr0 f23
  replace bn5 := bn5.fr f23 id
  replace bn13 := bn13.fr f23 id
  replace bn20 := bn20.fr f23 id
  replace bn27 := bn27.fr f23 id
  refine Chk1_iff.2 ⟨by rw [bn20.cell]; rfl, ?_⟩
  refine Chk1_iff.2 ⟨by rw [bn20.cell]; rfl, ?_⟩
  refine Chk1_iff.2 ⟨by rw [bn13.cell]; rfl, ?_⟩
  refine Chk1_iff.2 ⟨by rw [bn13.cell]; rfl, ?_⟩
  refine Chk1_iff.2 ⟨by rw [bn20.cell]; rfl, ?_⟩
  refine Chk1_iff.2 ⟨by rw [bn20.cell]; rfl, ?_⟩
  refine Chk1_iff.2 ⟨by rw [bn13.cell]; rfl, ?_⟩
  refine Chk1_iff.2 ⟨by rw [bn13.cell]; rfl, ?_⟩
  refine Chk1_iff.2 ⟨by rw [bn13.cell]; rfl, ?_⟩
  refine Chk1_iff.2 ⟨by rw [bn13.cell]; rfl, ?_⟩
  refine Chk1_iff.2 ⟨by rw [bn27.cell]; rfl, ?_⟩
  refine Chk1_iff.2 ⟨by rw [bn27.cell]; rfl, ?_⟩
  refine Chk1_iff.2 ⟨by rw [bn13.cell]; rfl, ?_⟩
  refine Chk1_iff.2 ⟨by rw [bn13.cell]; rfl, ?_⟩
  refine Chk1_iff.2 ⟨by rw [bn20.cell]; rfl, ?_⟩
  refine Chk1_iff.2 ⟨by rw [bn20.cell]; rfl, ?_⟩
  refine F36_call (C36  (by omega) hs_a (by omega) hs_r fun p_y c_y w24 hs_y f24 => back_bits ?_)
  generalize ef_y : (fun j => f_a j && !f_r j) = f_y at hs_y ⊢
  replace fr := fr.trans f24 fun _ h => h.elim
  have z24 := f24.size
  replace hs_a := hs_a.fr0 f24
  replace hs_e := hs_e.fr0 f24
  replace hs_r := hs_r.fr0 f24
  replace hs_b := hs_b.fr0 f24
  replace hs_s := hs_s.fr0 f24
  replace hs_t := hs_t.fr0 f24
  replace hs_u := hs_u.fr0 f24
  replace hs_v := hs_v.fr0 f24
  replace bn5 := bn5.fr f24 id
  replace bn13 := bn13.fr f24 id
  replace bn20 := bn20.fr f24 id
  replace bn27 := bn27.fr f24 id
  refine Chk1_iff.2 ⟨by rw [bn20.cell]; rfl, ?_⟩
  refine Chk1_iff.2 ⟨by rw [bn20.cell]; rfl, ?_⟩
  refine Chk1_iff.2 ⟨by rw [bn27.cell]; rfl, ?_⟩
  refine Chk1_iff.2 ⟨by rw [bn27.cell]; rfl, ?_⟩
  refine Chk1_iff.2 ⟨by rw [bn20.cell]; rfl, ?_⟩
  refine Chk1_iff.2 ⟨by rw [bn20.cell]; rfl, ?_⟩
  refine Chk1_iff.2 ⟨by rw [bn13.cell]; rfl, ?_⟩
  refine Chk1_iff.2 ⟨by rw [bn13.cell]; rfl, ?_⟩
  refine Chk1_iff.2 ⟨by rw [bn13.cell]; rfl, ?_⟩
  refine Chk1_iff.2 ⟨by rw [bn13.cell]; rfl, ?_⟩
  refine Chk1_iff.2 ⟨by rw [bn27.cell]; rfl, ?_⟩
  refine Chk1_iff.2 ⟨by rw [bn27.cell]; rfl, ?_⟩
  refine Chk1_iff.2 ⟨by rw [bn13.cell]; rfl, ?_⟩
  refine Chk1_iff.2 ⟨by rw [bn13.cell]; rfl, ?_⟩
  refine Chk1_iff.2 ⟨by rw [bn20.cell]; rfl, ?_⟩
  refine Chk1_iff.2 ⟨by rw [bn20.cell]; rfl, ?_⟩
  refine F16_call (F16_spec hs_v.sees hs_y.sees (by have := L_length_le n_b f_v; omega) fun w25 f25 => back_bool ?_)
  replace fr := fr.trans f25 fun _ h => h.elim
  have z25 := f25.size
  replace hs_a := hs_a.fr0 f25
  replace hs_e := hs_e.fr0 f25
  replace hs_r := hs_r.fr0 f25
  replace hs_b := hs_b.fr0 f25
  replace hs_s := hs_s.fr0 f25
  replace hs_t := hs_t.fr0 f25
  replace hs_u := hs_u.fr0 f25
  replace hs_v := hs_v.fr0 f25
  replace hs_y := hs_y.fr0 f25
  replace bn5 := bn5.fr f25 id
  replace bn13 := bn13.fr f25 id
  replace bn20 := bn20.fr f25 id
  replace bn27 := bn27.fr f25 id
  refine Chk1_iff.2 ⟨by rw [bn20.cell]; rfl, ?_⟩
  refine Chk1_iff.2 ⟨by rw [bn20.cell]; rfl, ?_⟩
  refine Chk1_iff.2 ⟨by rw [bn13.cell]; rfl, ?_⟩
  refine Chk1_iff.2 ⟨by rw [bn13.cell]; rfl, ?_⟩
  refine Chk1_iff.2 ⟨by rw [bn20.cell]; rfl, ?_⟩
  refine Chk1_iff.2 ⟨by rw [bn20.cell]; rfl, ?_⟩
  refine Chk1_iff.2 ⟨by rw [bn27.cell]; rfl, ?_⟩
  refine Chk1_iff.2 ⟨by rw [bn27.cell]; rfl, ?_⟩
  refine Chk1_iff.2 ⟨by rw [bn20.cell]; rfl, ?_⟩
  refine Chk1_iff.2 ⟨by rw [bn20.cell]; rfl, ?_⟩
  refine Chk1_iff.2 ⟨by rw [bn13.cell]; rfl, ?_⟩
  refine Chk1_iff.2 ⟨by rw [bn13.cell]; rfl, ?_⟩
  refine Chk1_iff.2 ⟨by rw [bn13.cell]; rfl, ?_⟩
  refine Chk1_iff.2 ⟨by rw [bn13.cell]; rfl, ?_⟩
  refine Chk1_iff.2 ⟨by rw [bn27.cell]; rfl, ?_⟩
  refine Chk1_iff.2 ⟨by rw [bn27.cell]; rfl, ?_⟩
  refine Chk1_iff.2 ⟨by rw [bn13.cell]; rfl, ?_⟩
  refine Chk1_iff.2 ⟨by rw [bn13.cell]; rfl, ?_⟩
  refine Chk1_iff.2 ⟨by rw [bn20.cell]; rfl, ?_⟩
  refine Chk1_iff.2 ⟨by rw [bn20.cell]; rfl, ?_⟩
  rw [decide_eq_true (L_same (fun j => by rw [← ef_v, ← ef_y, ← ef_b]; simp only []; cases h1 : f_a j <;> cases h2 : f_r j <;> simp [h1, h2]) hs_v.lt hs_y.lt)]
  exact hk _ fr
end Go.Proofs.Ytopdlfecfgimpaa.E
