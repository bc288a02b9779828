/-
  The laws FnBSDeepBetween, FnBSDeepCompact, FnBSDeepComplement, FnBSDeepLists, walked. The straight parts were printed by this session's own program aw.py.
-/
import Derived.Test.YtopdlfecfgimpaaDoorImp3
namespace Go.Proofs.YtopdlfecfgimpaaDoor.E
open Go
set_option linter.unusedSimpArgs false
set_option linter.unusedVariables false
set_option maxRecDepth 100000
set_option maxHeartbeats 2000000

theorem cnt_all {s d : Nat} {f : Nat → Bool} {b : Bool} (h : ∀ j, s ≤ j → j < s + d → f j = b) : cnt (s + d) f - cnt s f = if b then d else 0 := by
  induction d with
  | zero => simp
  | succ d ih =>
    have := ih (fun j h1 h2 => h j h1 (by omega))
    have h2 := cnt_split f (show s ≤ s + d by omega)
    rw [show s + (d + 1) = (s + d) + 1 by omega]
    simp only [cnt, h (s + d) (by omega) (by omega)]
    cases b <;> simp at this ⊢ <;> omega
theorem cnt_any {n i : Nat} {f : Nat → Bool} (hi : i < n) (h : f i = true) : 0 < cnt n f := by
  rcases Nat.eq_zero_or_pos (cnt n f) with h0 | h0
  · rw [cnt_eq_zero] at h0; rw [h0 i hi] at h; cases h
  · exact h0
theorem cnt_full {n : Nat} {f : Nat → Bool} (h : ∀ j, j < n → f j = true) : cnt n f = n := by
  have := cnt_all (s := 0) (d := n) (f := f) (b := true) (fun j _ h2 => h j (by omega))
  simp only [Nat.zero_add, cnt, if_true] at this
  simpa using this
theorem cntN {a b : Nat} : (((a : Nat) : Int) == ((b : Nat) : Int)) = decide (a = b) := by
  rw [Bool.eq_iff_iff, beq_iff_eq, decide_eq_true_iff]; omega

theorem F4_spec {x l c a : Nat} {p : Option Addr} {k : Value → W} {w : World} (hx : x < 18446744073709551616) (hr : Reads w p l) (ha : a < 65536) (hT : Tab w)
    (hk : ∀ w', Fr (fun _ => False) w w' → k (.bool true) w') : F4 k x p l c a w := by
  unfold F4
  have hp := hT.1
  refine new_intro fun n4 w1 e1 bn4 f1 z1 => ?_
  have fr := f1
  replace hr := hr.fr0 f1
  replace hT := hT.fr0 f1
  refine load_int bn4 rfl ?_
  refine load_slice bn4 rfl ?_
  refine F7_call (F7_spec fun fit1 w2 f2 hfit1 => back_bool ?_)
  replace fr := fr.trans f2 fun _ h => h.elim
  have z2 := f2.size
  replace hr := hr.fr0 f2
  replace hT := hT.fr0 f2
  replace bn4 := bn4.fr f2 id
  refine BIf_intro (fun hc => hk _ fr) (fun hc => ?_)
  have hl := hfit1 (by simpa using hc)
  refine load_int bn4 rfl ?_
  refine load_slice bn4 rfl ?_
  refine F9_call (C9 hx hr hl fun n_z f_z p_z c_z w3 hn_z hs_z f3 => back_bits ?_)
  replace fr := fr.trans f3 fun _ h => h.elim
  have z3 := f3.size
  replace hr := hr.fr0 f3
  replace hT := hT.fr0 f3
  replace bn4 := bn4.fr f3 id
  refine F8_call (C8  (i := 401) (by omega) hs_z (by omega) fun p_a c_a w4 hs_a f4 => back_bits ?_)
  generalize en_a : (max n_z (401 + 1)) = n_a at hs_a ⊢
  generalize ef_a : (fun j => f_z j || decide (j = 401)) = f_a at hs_a ⊢
  have hs_z' := hs_z
  have hlt_a := hs_a.lt
  replace fr := fr.trans f4 fun _ h => h.elim
  have z4 := f4.size
  replace hT := hT.fr0 f4
  replace hs_z := hs_z.fr0 f4
  replace bn4 := bn4.fr f4 id
  refine new_intro fun n14 w5 e5 bn14 f5 z5 => ?_
  replace fr := fr.trans f5 fun _ h => h.elim
  replace hT := hT.fr0 f5
  replace hs_z := hs_z.fr0 f5
  replace hs_a := hs_a.fr0 f5
  replace bn4 := bn4.fr f5 id
  refine store_intro bn14 (by simp) rfl fun w6 bn14 f6 z6 => ?_
  replace fr := fr.trans f6 fun x (e : x = n14) => .inr (by omega)
  replace hT := hT.fr f6 (show ¬ 0 = n14 by omega)
  replace hs_z := hs_z.st f6 (by omega)
  replace hs_a := hs_a.st f6 (by omega)
  replace bn4 := bn4.fr f6 (show ¬ n4 = n14 by omega)
  refine store_intro bn14 (by simp) rfl fun w7 bn14 f7 z7 => ?_
  replace fr := fr.trans f7 fun x (e : x = n14) => .inr (by omega)
  replace hT := hT.fr f7 (show ¬ 0 = n14 by omega)
  replace hs_z := hs_z.st f7 (by omega)
  replace hs_a := hs_a.st f7 (by omega)
  replace bn4 := bn4.fr f7 (show ¬ n4 = n14 by omega)
  refine ⟨by decide, ?_⟩
  refine bind_intro ?_
  have ei : remI (IntKind.wrap .u64 (a : Int)) 401 = ((a % 401 : Nat) : Int) := by rw [wrap_u64 (by omega) (by omega), remI_eq (by omega)]; omega
  rw [ei]
  have hii : a % 401 < 401 := Nat.mod_lt _ (by decide)
  generalize a % 401 = i at hii
  refine load_int bn14 rfl ?_
  refine load_slice bn14 rfl ?_
  refine F10_call (C10 (by omega) hs_a hT (by omega) fun m_n r_n w8 hr_n f8 => back_two ?_)
  replace fr := fr.trans f8 fun _ h => h.elim
  have z8 := f8.size
  replace hT := hT.fr0 f8
  replace hs_z := hs_z.fr0 f8
  replace hs_a := hs_a.fr0 f8
  replace bn4 := bn4.fr f8 id
  replace bn14 := bn14.fr f8 id
  refine load_int bn14 rfl ?_
  refine load_slice bn14 rfl ?_
  refine F14_call (C14 (by omega) hs_a hT (by omega) fun m_m r_m w9 hr_m f9 => back_two ?_)
  replace fr := fr.trans f9 fun _ h => h.elim
  have z9 := f9.size
  replace hT := hT.fr0 f9
  replace hs_z := hs_z.fr0 f9
  replace hs_a := hs_a.fr0 f9
  replace bn4 := bn4.fr f9 id
  replace bn14 := bn14.fr f9 id
  rcases hr_n with ⟨rfl, g1, g2, g3⟩ | ⟨_, _, g1⟩
  rotate_left
  · have := g1 401 (by omega)
    rw [← ef_a] at this
    simp at this
  have h402 : n_a = 402 := by omega
  have hmn := hlt_a m_n g2
  rcases hr_m with ⟨rfl, q1, q2, q3, q4⟩ | ⟨_, _, q1⟩
  rotate_left
  · have h1 : cnt n_z f_z ≤ n_z := cnt_le _ _
    have := q1 400 (by omega) (by omega)
    rw [← ef_a] at this
    have h0 : f_z 400 = true := by simpa using this
    have := hs_z'.lt 400 h0
    omega
  rw [BIf_true]
  rw [BIf_true]
  rw [decide_eq_true (by omega), BIf_true]
  rw [decide_eq_true (by omega), BIf_true]
  refine load_int bn14 rfl ?_
  refine load_slice bn14 rfl ?_
  refine F15_call (C15 (by omega) hs_a (by omega) (by omega) fun w10 f10 => back_int ?_)
  replace fr := fr.trans f10 fun _ h => h.elim
  have z10 := f10.size
  replace hT := hT.fr0 f10
  replace hs_z := hs_z.fr0 f10
  replace hs_a := hs_a.fr0 f10
  replace bn4 := bn4.fr f10 id
  replace bn14 := bn14.fr f10 id
  have c1 : cnt m_n f_a - cnt i f_a = 0 := by
      have := cnt_all (s := i) (d := m_n - i) (f := f_a) (b := false) (fun j h1 h2 => g3 j h1 (by omega))
      rwa [show i + (m_n - i) = m_n by omega, if_neg (by decide)] at this
  rw [c1, show (((0 : Nat) : Int) == 0) = true from rfl, BIf_true]
  refine load_int bn14 rfl ?_
  refine load_slice bn14 rfl ?_
  refine F15_call (C15 (by omega) hs_a (by omega) (by omega) fun w11 f11 => back_int ?_)
  replace fr := fr.trans f11 fun _ h => h.elim
  have z11 := f11.size
  replace hT := hT.fr0 f11
  replace hs_z := hs_z.fr0 f11
  replace hs_a := hs_a.fr0 f11
  replace bn4 := bn4.fr f11 id
  replace bn14 := bn14.fr f11 id
  have c2 : cnt m_m f_a - cnt i f_a = m_m - i := by
      have := cnt_all (s := i) (d := m_m - i) (f := f_a) (b := true) (fun j h1 h2 => q4 j h1 (by omega))
      rwa [show i + (m_m - i) = m_m by omega, if_pos rfl] at this
  rw [c2, subI_u64 (by omega) (by omega), show (((m_m - i : Nat) : Int)) = (m_m : Int) - (i : Int) by omega, beq_self_eq_true, BIf_true]
  refine load_int bn14 rfl ?_
  refine load_slice bn14 rfl ?_
  refine F16_call (C16  (by omega) hs_a (by omega) fun w12 f12 => back_bool ?_)
  replace fr := fr.trans f12 fun _ h => h.elim
  have z12 := f12.size
  replace hT := hT.fr0 f12
  replace hs_z := hs_z.fr0 f12
  replace hs_a := hs_a.fr0 f12
  replace bn4 := bn4.fr f12 id
  replace bn14 := bn14.fr f12 id
  rw [g2, BIf_true]
  refine load_int bn14 rfl ?_
  refine load_slice bn14 rfl ?_
  refine F16_call (C16  (by omega) hs_a (by omega) fun w13 f13 => back_bool ?_)
  replace fr := fr.trans f13 fun _ h => h.elim
  have z13 := f13.size
  replace hT := hT.fr0 f13
  replace hs_z := hs_z.fr0 f13
  replace hs_a := hs_a.fr0 f13
  replace bn4 := bn4.fr f13 id
  replace bn14 := bn14.fr f13 id
  rw [q3]
  exact hk _ fr

theorem F5_spec {x l c a y : Nat} {p : Option Addr} {k : Value → W} {w : World} (hx : x < 18446744073709551616) (hr : Reads w p l) (ha : a < 65536) (hy : y < 65536) (hT : Tab w)
    (hk : ∀ w', Fr (fun _ => False) w w' → k (.bool true) w') : F5 k x p l c a y w := by
  unfold F5
  have hp := hT.1
  have ei : remI (IntKind.wrap .u64 (a : Int)) 400 = ((a % 400 : Nat) : Int) := by rw [wrap_u64 (by omega) (by omega), remI_eq (by omega)]; omega
  rw [ei]
  have hii : a % 400 < 400 := Nat.mod_lt _ (by decide)
  generalize a % 400 = i at hii
  refine new_intro fun n5 w1 e1 bn5 f1 z1 => ?_
  have fr := f1
  replace hr := hr.fr0 f1
  replace hT := hT.fr0 f1
  refine load_int bn5 rfl ?_
  refine load_slice bn5 rfl ?_
  refine F7_call (F7_spec fun fit1 w2 f2 hfit1 => back_bool ?_)
  replace fr := fr.trans f2 fun _ h => h.elim
  have z2 := f2.size
  replace hr := hr.fr0 f2
  replace hT := hT.fr0 f2
  replace bn5 := bn5.fr f2 id
  refine BIf_intro (fun hc => hk _ fr) (fun hc => ?_)
  have hl := hfit1 (by simpa using hc)
  refine load_int bn5 rfl ?_
  refine load_slice bn5 rfl ?_
  refine F9_call (C9 hx hr hl fun n_z f_z p_z c_z w3 hn_z hs_z f3 => back_bits ?_)
  replace fr := fr.trans f3 fun _ h => h.elim
  have z3 := f3.size
  replace hr := hr.fr0 f3
  replace hT := hT.fr0 f3
  replace bn5 := bn5.fr f3 id
  refine ⟨by decide, ?_⟩
  refine F8_call (C8  (by omega) hs_z (by omega) fun p_a c_a w4 hs_a f4 => back_bits ?_)
  generalize en_a : (max n_z (i + 1)) = n_a at hs_a ⊢
  generalize ef_a : (fun j => f_z j || decide (j = i)) = f_a at hs_a ⊢
  have hat : f_a i = true := by rw [← ef_a]; simp
  have hin : i < n_a := hs_a.lt i hat
  replace fr := fr.trans f4 fun _ h => h.elim
  have z4 := f4.size
  replace hT := hT.fr0 f4
  replace hs_z := hs_z.fr0 f4
  replace bn5 := bn5.fr f4 id
  refine ⟨by decide, ?_⟩
  refine new_intro fun n15 w5 e5 bn15 f5 z5 => ?_
  replace fr := fr.trans f5 fun _ h => h.elim
  replace hT := hT.fr0 f5
  replace hs_z := hs_z.fr0 f5
  replace hs_a := hs_a.fr0 f5
  replace bn5 := bn5.fr f5 id
  refine store_intro bn15 (by simp) rfl fun w6 bn15 f6 z6 => ?_
  replace fr := fr.trans f6 fun x (e : x = n15) => .inr (by omega)
  replace hT := hT.fr f6 (show ¬ 0 = n15 by omega)
  replace hs_z := hs_z.st f6 (by omega)
  replace hs_a := hs_a.st f6 (by omega)
  replace bn5 := bn5.fr f6 (show ¬ n5 = n15 by omega)
  refine store_intro bn15 (by simp) rfl fun w7 bn15 f7 z7 => ?_
  replace fr := fr.trans f7 fun x (e : x = n15) => .inr (by omega)
  replace hT := hT.fr f7 (show ¬ 0 = n15 by omega)
  replace hs_z := hs_z.st f7 (by omega)
  replace hs_a := hs_a.st f7 (by omega)
  replace bn5 := bn5.fr f7 (show ¬ n5 = n15 by omega)
  refine bind_intro ?_
  have ei : remI (IntKind.wrap .u64 (y : Int)) 500 = ((y % 500 : Nat) : Int) := by rw [wrap_u64 (by omega) (by omega), remI_eq (by omega)]; omega
  rw [ei]
  have hiu : y % 500 < 500 := Nat.mod_lt _ (by decide)
  generalize y % 500 = u at hiu
  refine load_int bn15 rfl ?_
  refine load_slice bn15 rfl ?_
  refine F17_call (C17 (by omega) hs_a fun n_b p_b c_b w8 hn_b hs_b f8 => back_bits ?_)
  replace fr := fr.trans f8 fun _ h => h.elim
  have z8 := f8.size
  replace hT := hT.fr0 f8
  replace hs_z := hs_z.fr0 f8
  replace hs_a := hs_a.fr0 f8
  replace bn5 := bn5.fr f8 id
  replace bn15 := bn15.fr f8 id
  refine new_intro fun n21 w9 e9 bn21 f9 z9 => ?_
  replace fr := fr.trans f9 fun _ h => h.elim
  replace hT := hT.fr0 f9
  replace hs_z := hs_z.fr0 f9
  replace hs_a := hs_a.fr0 f9
  replace hs_b := hs_b.fr0 f9
  replace bn5 := bn5.fr f9 id
  replace bn15 := bn15.fr f9 id
  refine store_intro bn21 (by simp) rfl fun w10 bn21 f10 z10 => ?_
  replace fr := fr.trans f10 fun x (e : x = n21) => .inr (by omega)
  replace hT := hT.fr f10 (show ¬ 0 = n21 by omega)
  replace hs_z := hs_z.st f10 (by omega)
  replace hs_a := hs_a.st f10 (by omega)
  replace hs_b := hs_b.st f10 (by omega)
  replace bn5 := bn5.fr f10 (show ¬ n5 = n21 by omega)
  replace bn15 := bn15.fr f10 (show ¬ n15 = n21 by omega)
  refine store_intro bn21 (by simp) rfl fun w11 bn21 f11 z11 => ?_
  replace fr := fr.trans f11 fun x (e : x = n21) => .inr (by omega)
  replace hT := hT.fr f11 (show ¬ 0 = n21 by omega)
  replace hs_z := hs_z.st f11 (by omega)
  replace hs_a := hs_a.st f11 (by omega)
  replace hs_b := hs_b.st f11 (by omega)
  replace bn5 := bn5.fr f11 (show ¬ n5 = n21 by omega)
  replace bn15 := bn15.fr f11 (show ¬ n15 = n21 by omega)
  refine load_int bn15 rfl ?_
  refine load_slice bn15 rfl ?_
  refine F10_call (C10 (by omega) hs_a hT (by omega) fun m_n r_n w12 hr_n f12 => back_two ?_)
  replace fr := fr.trans f12 fun _ h => h.elim
  have z12 := f12.size
  replace hT := hT.fr0 f12
  replace hs_z := hs_z.fr0 f12
  replace hs_a := hs_a.fr0 f12
  replace hs_b := hs_b.fr0 f12
  replace bn5 := bn5.fr f12 id
  replace bn15 := bn15.fr f12 id
  replace bn21 := bn21.fr f12 id
  refine load_int bn21 rfl ?_
  refine load_slice bn21 rfl ?_
  refine F10_call (C10 (by omega) hs_b hT (by omega) fun m_m r_m w13 hr_m f13 => back_two ?_)
  replace fr := fr.trans f13 fun _ h => h.elim
  have z13 := f13.size
  replace hT := hT.fr0 f13
  replace hs_z := hs_z.fr0 f13
  replace hs_a := hs_a.fr0 f13
  replace hs_b := hs_b.fr0 f13
  replace bn5 := bn5.fr f13 id
  replace bn15 := bn15.fr f13 id
  replace bn21 := bn21.fr f13 id
  refine drw_intro fun w14 f14 z14 => ?_
  replace fr := fr.trans f14 fun _ h => h.elim
  replace hT := hT.fr0 f14
  replace hs_z := hs_z.fr0 f14
  replace hs_a := hs_a.fr0 f14
  replace hs_b := hs_b.fr0 f14
  replace bn5 := bn5.fr f14 id
  replace bn15 := bn15.fr f14 id
  replace bn21 := bn21.fr f14 id
  refine load_int bn15 rfl ?_
  refine load_slice bn15 rfl ?_
  refine F18_call (C18  (by omega) hs_a fun w15 f15 => back_int ?_)
  replace fr := fr.trans f15 fun _ h => h.elim
  have z15 := f15.size
  replace hT := hT.fr0 f15
  replace hs_z := hs_z.fr0 f15
  replace hs_a := hs_a.fr0 f15
  replace hs_b := hs_b.fr0 f15
  replace bn5 := bn5.fr f15 id
  replace bn15 := bn15.fr f15 id
  replace bn21 := bn21.fr f15 id
  have hpos := cnt_any hin hat
  rw [decide_eq_true (by omega), BIf_true]
  refine load_int bn15 rfl ?_
  refine load_slice bn15 rfl ?_
  refine load_int bn21 rfl ?_
  refine load_slice bn21 rfl ?_
  refine F18_call (C18  (by omega) hs_a fun w16 f16 => back_int ?_)
  replace fr := fr.trans f16 fun _ h => h.elim
  have z16 := f16.size
  replace hT := hT.fr0 f16
  replace hs_z := hs_z.fr0 f16
  replace hs_a := hs_a.fr0 f16
  replace hs_b := hs_b.fr0 f16
  replace bn5 := bn5.fr f16 id
  replace bn15 := bn15.fr f16 id
  replace bn21 := bn21.fr f16 id
  refine Chk1_iff.2 ⟨by rw [bn21.cell]; rfl, ?_⟩
  refine Chk1_iff.2 ⟨by rw [bn21.cell]; rfl, ?_⟩
  refine Chk1_iff.2 ⟨by rw [bn15.cell]; rfl, ?_⟩
  refine Chk1_iff.2 ⟨by rw [bn15.cell]; rfl, ?_⟩
  refine F18_call (C18  (by omega) hs_b fun w17 f17 => back_int ?_)
  replace fr := fr.trans f17 fun _ h => h.elim
  have z17 := f17.size
  replace hT := hT.fr0 f17
  replace hs_z := hs_z.fr0 f17
  replace hs_a := hs_a.fr0 f17
  replace hs_b := hs_b.fr0 f17
  replace bn5 := bn5.fr f17 id
  replace bn15 := bn15.fr f17 id
  replace bn21 := bn21.fr f17 id
  refine Chk1_iff.2 ⟨by rw [bn15.cell]; rfl, ?_⟩
  refine Chk1_iff.2 ⟨by rw [bn15.cell]; rfl, ?_⟩
  refine Chk1_iff.2 ⟨by rw [bn15.cell]; rfl, ?_⟩
  refine Chk1_iff.2 ⟨by rw [bn15.cell]; rfl, ?_⟩
  have ec : cnt n_b f_a = cnt n_a f_a := (cnt_more (m := n_a) (by omega) hs_b.lt).symm
  rw [ec, beq_self_eq_true, BIf_true]
  refine load_int bn15 rfl ?_
  refine load_slice bn15 rfl ?_
  refine load_int bn21 rfl ?_
  refine load_slice bn21 rfl ?_
  refine F19_call (C19  (by omega) hs_a (by omega) fun w18 f18 => back_int ?_)
  replace fr := fr.trans f18 fun _ h => h.elim
  have z18 := f18.size
  replace hT := hT.fr0 f18
  replace hs_z := hs_z.fr0 f18
  replace hs_a := hs_a.fr0 f18
  replace hs_b := hs_b.fr0 f18
  replace bn5 := bn5.fr f18 id
  replace bn15 := bn15.fr f18 id
  replace bn21 := bn21.fr f18 id
  refine Chk1_iff.2 ⟨by rw [bn21.cell]; rfl, ?_⟩
  refine Chk1_iff.2 ⟨by rw [bn21.cell]; rfl, ?_⟩
  refine Chk1_iff.2 ⟨by rw [bn21.cell]; rfl, ?_⟩
  refine Chk1_iff.2 ⟨by rw [bn21.cell]; rfl, ?_⟩
  refine Chk1_iff.2 ⟨by rw [bn15.cell]; rfl, ?_⟩
  refine Chk1_iff.2 ⟨by rw [bn15.cell]; rfl, ?_⟩
  refine Chk1_iff.2 ⟨by rw [bn15.cell]; rfl, ?_⟩
  refine Chk1_iff.2 ⟨by rw [bn15.cell]; rfl, ?_⟩
  refine F19_call (C19  (by omega) hs_b (by omega) fun w19 f19 => back_int ?_)
  replace fr := fr.trans f19 fun _ h => h.elim
  have z19 := f19.size
  replace hT := hT.fr0 f19
  replace hs_z := hs_z.fr0 f19
  replace hs_a := hs_a.fr0 f19
  replace hs_b := hs_b.fr0 f19
  replace bn5 := bn5.fr f19 id
  replace bn15 := bn15.fr f19 id
  replace bn21 := bn21.fr f19 id
  refine Chk1_iff.2 ⟨by rw [bn15.cell]; rfl, ?_⟩
  refine Chk1_iff.2 ⟨by rw [bn15.cell]; rfl, ?_⟩
  refine Chk1_iff.2 ⟨by rw [bn21.cell]; rfl, ?_⟩
  refine Chk1_iff.2 ⟨by rw [bn21.cell]; rfl, ?_⟩
  refine Chk1_iff.2 ⟨by rw [bn15.cell]; rfl, ?_⟩
  refine Chk1_iff.2 ⟨by rw [bn15.cell]; rfl, ?_⟩
  refine Chk1_iff.2 ⟨by rw [bn15.cell]; rfl, ?_⟩
  refine Chk1_iff.2 ⟨by rw [bn15.cell]; rfl, ?_⟩
  rw [beq_self_eq_true, BIf_true]
  refine load_int bn15 rfl ?_
  refine load_slice bn15 rfl ?_
  refine load_int bn21 rfl ?_
  refine load_slice bn21 rfl ?_
  refine F16_call (C16  (by omega) hs_a (by omega) fun w20 f20 => back_bool ?_)
  replace fr := fr.trans f20 fun _ h => h.elim
  have z20 := f20.size
  replace hT := hT.fr0 f20
  replace hs_z := hs_z.fr0 f20
  replace hs_a := hs_a.fr0 f20
  replace hs_b := hs_b.fr0 f20
  replace bn5 := bn5.fr f20 id
  replace bn15 := bn15.fr f20 id
  replace bn21 := bn21.fr f20 id
  refine Chk1_iff.2 ⟨by rw [bn21.cell]; rfl, ?_⟩
  refine Chk1_iff.2 ⟨by rw [bn21.cell]; rfl, ?_⟩
  refine Chk1_iff.2 ⟨by rw [bn21.cell]; rfl, ?_⟩
  refine Chk1_iff.2 ⟨by rw [bn21.cell]; rfl, ?_⟩
  refine Chk1_iff.2 ⟨by rw [bn15.cell]; rfl, ?_⟩
  refine Chk1_iff.2 ⟨by rw [bn15.cell]; rfl, ?_⟩
  refine Chk1_iff.2 ⟨by rw [bn21.cell]; rfl, ?_⟩
  refine Chk1_iff.2 ⟨by rw [bn21.cell]; rfl, ?_⟩
  refine Chk1_iff.2 ⟨by rw [bn15.cell]; rfl, ?_⟩
  refine Chk1_iff.2 ⟨by rw [bn15.cell]; rfl, ?_⟩
  refine Chk1_iff.2 ⟨by rw [bn15.cell]; rfl, ?_⟩
  refine Chk1_iff.2 ⟨by rw [bn15.cell]; rfl, ?_⟩
  refine F16_call (C16  (by omega) hs_b (by omega) fun w21 f21 => back_bool ?_)
  replace fr := fr.trans f21 fun _ h => h.elim
  have z21 := f21.size
  replace hT := hT.fr0 f21
  replace hs_z := hs_z.fr0 f21
  replace hs_a := hs_a.fr0 f21
  replace hs_b := hs_b.fr0 f21
  replace bn5 := bn5.fr f21 id
  replace bn15 := bn15.fr f21 id
  replace bn21 := bn21.fr f21 id
  refine Chk1_iff.2 ⟨by rw [bn15.cell]; rfl, ?_⟩
  refine Chk1_iff.2 ⟨by rw [bn15.cell]; rfl, ?_⟩
  refine Chk1_iff.2 ⟨by rw [bn21.cell]; rfl, ?_⟩
  refine Chk1_iff.2 ⟨by rw [bn21.cell]; rfl, ?_⟩
  refine Chk1_iff.2 ⟨by rw [bn15.cell]; rfl, ?_⟩
  refine Chk1_iff.2 ⟨by rw [bn15.cell]; rfl, ?_⟩
  refine Chk1_iff.2 ⟨by rw [bn21.cell]; rfl, ?_⟩
  refine Chk1_iff.2 ⟨by rw [bn21.cell]; rfl, ?_⟩
  refine Chk1_iff.2 ⟨by rw [bn15.cell]; rfl, ?_⟩
  refine Chk1_iff.2 ⟨by rw [bn15.cell]; rfl, ?_⟩
  refine Chk1_iff.2 ⟨by rw [bn15.cell]; rfl, ?_⟩
  refine Chk1_iff.2 ⟨by rw [bn15.cell]; rfl, ?_⟩
  rw [beq_self_eq_true, BIf_true]
  obtain ⟨e1, e2⟩ := hr_n.same hr_m (fun _ _ => rfl)
  subst e1 e2
  rw [beq_self_eq_true, BIf_true]
  refine BIf_intro (fun hc => ?_) (fun hc => ?_)
  · refine load_int bn21 rfl ?_
    refine load_slice bn21 rfl ?_
    refine load_int bn15 rfl ?_
    refine load_slice bn15 rfl ?_
    refine F20_call (C20  (by omega) hs_b (by omega) hs_a fun r_s w22 hr_s f22 => back_bool ?_)
    replace fr := fr.trans f22 fun _ h => h.elim
    have z22 := f22.size
    replace hT := hT.fr0 f22
    replace hs_z := hs_z.fr0 f22
    replace hs_a := hs_a.fr0 f22
    replace hs_b := hs_b.fr0 f22
    replace bn5 := bn5.fr f22 id
    replace bn15 := bn15.fr f22 id
    replace bn21 := bn21.fr f22 id
    refine Chk1_iff.2 ⟨by rw [bn21.cell]; rfl, ?_⟩
    refine Chk1_iff.2 ⟨by rw [bn21.cell]; rfl, ?_⟩
    refine Chk1_iff.2 ⟨by rw [bn15.cell]; rfl, ?_⟩
    refine Chk1_iff.2 ⟨by rw [bn15.cell]; rfl, ?_⟩
    refine Chk1_iff.2 ⟨by rw [bn21.cell]; rfl, ?_⟩
    refine Chk1_iff.2 ⟨by rw [bn21.cell]; rfl, ?_⟩
    refine Chk1_iff.2 ⟨by rw [bn15.cell]; rfl, ?_⟩
    refine Chk1_iff.2 ⟨by rw [bn15.cell]; rfl, ?_⟩
    refine Chk1_iff.2 ⟨by rw [bn21.cell]; rfl, ?_⟩
    refine Chk1_iff.2 ⟨by rw [bn21.cell]; rfl, ?_⟩
    refine Chk1_iff.2 ⟨by rw [bn15.cell]; rfl, ?_⟩
    refine Chk1_iff.2 ⟨by rw [bn15.cell]; rfl, ?_⟩
    refine Chk1_iff.2 ⟨by rw [bn15.cell]; rfl, ?_⟩
    refine Chk1_iff.2 ⟨by rw [bn15.cell]; rfl, ?_⟩
    have t_s : r_s = true := hr_s.2 (fun _ h => h)
    rw [t_s]
    exact hk _ fr
  · rw [beq_self_eq_true, BIf_true]
    refine load_int bn21 rfl ?_
    refine load_slice bn21 rfl ?_
    refine load_int bn15 rfl ?_
    refine load_slice bn15 rfl ?_
    refine F20_call (C20  (by omega) hs_b (by omega) hs_a fun r_s w22 hr_s f22 => back_bool ?_)
    replace fr := fr.trans f22 fun _ h => h.elim
    have z22 := f22.size
    replace hT := hT.fr0 f22
    replace hs_z := hs_z.fr0 f22
    replace hs_a := hs_a.fr0 f22
    replace hs_b := hs_b.fr0 f22
    replace bn5 := bn5.fr f22 id
    replace bn15 := bn15.fr f22 id
    replace bn21 := bn21.fr f22 id
    refine Chk1_iff.2 ⟨by rw [bn21.cell]; rfl, ?_⟩
    refine Chk1_iff.2 ⟨by rw [bn21.cell]; rfl, ?_⟩
    refine Chk1_iff.2 ⟨by rw [bn15.cell]; rfl, ?_⟩
    refine Chk1_iff.2 ⟨by rw [bn15.cell]; rfl, ?_⟩
    refine Chk1_iff.2 ⟨by rw [bn21.cell]; rfl, ?_⟩
    refine Chk1_iff.2 ⟨by rw [bn21.cell]; rfl, ?_⟩
    refine Chk1_iff.2 ⟨by rw [bn15.cell]; rfl, ?_⟩
    refine Chk1_iff.2 ⟨by rw [bn15.cell]; rfl, ?_⟩
    refine Chk1_iff.2 ⟨by rw [bn21.cell]; rfl, ?_⟩
    refine Chk1_iff.2 ⟨by rw [bn21.cell]; rfl, ?_⟩
    refine Chk1_iff.2 ⟨by rw [bn15.cell]; rfl, ?_⟩
    refine Chk1_iff.2 ⟨by rw [bn15.cell]; rfl, ?_⟩
    refine Chk1_iff.2 ⟨by rw [bn15.cell]; rfl, ?_⟩
    refine Chk1_iff.2 ⟨by rw [bn15.cell]; rfl, ?_⟩
    have t_s : r_s = true := hr_s.2 (fun _ h => h)
    rw [t_s]
    exact hk _ fr

theorem F6_spec {x l c a : Nat} {p : Option Addr} {k : Value → W} {w : World} (hx : x < 18446744073709551616) (hr : Reads w p l) (ha : a < 65536) (hT : Tab w)
    (hk : ∀ w', Fr (fun _ => False) w w' → k (.bool true) w') : F6 k x p l c a w := by
  unfold F6
  have hp := hT.1
  have eI : remI (IntKind.wrap .u64 (a : Int)) 400 = ((a % 400 : Nat) : Int) := by rw [wrap_u64 (by omega) (by omega), remI_eq (by omega)]; omega
  rw [eI]
  obtain ⟨i, ei⟩ : ∃ i, i = a % 400 := ⟨_, rfl⟩
  rw [← ei]
  have hi : i < 400 := by omega
  refine new_intro fun n4 w1 e1 bn4 f1 z1 => ?_
  have fr := f1
  replace hr := hr.fr0 f1
  replace hT := hT.fr0 f1
  refine load_int bn4 rfl ?_
  refine load_slice bn4 rfl ?_
  refine F7_call (F7_spec fun fit1 w2 f2 hfit1 => back_bool ?_)
  replace fr := fr.trans f2 fun _ h => h.elim
  have z2 := f2.size
  replace hr := hr.fr0 f2
  replace hT := hT.fr0 f2
  replace bn4 := bn4.fr f2 id
  refine BIf_intro (fun hc => hk _ fr) (fun hc => ?_)
  have hl := hfit1 (by simpa using hc)
  refine load_int bn4 rfl ?_
  refine load_slice bn4 rfl ?_
  refine F9_call (C9 hx hr hl fun n_z f_z p_z c_z w3 hn_z hs_z f3 => back_bits ?_)
  replace fr := fr.trans f3 fun _ h => h.elim
  have z3 := f3.size
  replace hr := hr.fr0 f3
  replace hT := hT.fr0 f3
  replace bn4 := bn4.fr f3 id
  refine ⟨by decide, ?_⟩
  refine F8_call (C8  (by omega) hs_z (by omega) fun p_a c_a w4 hs_a f4 => back_bits ?_)
  generalize en_a : (max n_z (i + 1)) = n_a at hs_a ⊢
  generalize ef_a : (fun j => f_z j || decide (j = i)) = f_a at hs_a ⊢
  have hat : f_a i = true := by rw [← ef_a]; simp
  have hin : i < n_a := hs_a.lt i hat
  replace fr := fr.trans f4 fun _ h => h.elim
  have z4 := f4.size
  replace hT := hT.fr0 f4
  replace hs_z := hs_z.fr0 f4
  replace bn4 := bn4.fr f4 id
  refine new_intro fun n14 w5 e5 bn14 f5 z5 => ?_
  replace fr := fr.trans f5 fun _ h => h.elim
  replace hT := hT.fr0 f5
  replace hs_z := hs_z.fr0 f5
  replace hs_a := hs_a.fr0 f5
  replace bn4 := bn4.fr f5 id
  refine store_intro bn14 (by simp) rfl fun w6 bn14 f6 z6 => ?_
  replace fr := fr.trans f6 fun x (e : x = n14) => .inr (by omega)
  replace hT := hT.fr f6 (show ¬ 0 = n14 by omega)
  replace hs_z := hs_z.st f6 (by omega)
  replace hs_a := hs_a.st f6 (by omega)
  replace bn4 := bn4.fr f6 (show ¬ n4 = n14 by omega)
  refine store_intro bn14 (by simp) rfl fun w7 bn14 f7 z7 => ?_
  replace fr := fr.trans f7 fun x (e : x = n14) => .inr (by omega)
  replace hT := hT.fr f7 (show ¬ 0 = n14 by omega)
  replace hs_z := hs_z.st f7 (by omega)
  replace hs_a := hs_a.st f7 (by omega)
  replace bn4 := bn4.fr f7 (show ¬ n4 = n14 by omega)
  refine load_int bn14 rfl ?_
  refine load_slice bn14 rfl ?_
  refine F21_call (C21  (by omega) hs_a fun p_b c_b w8 hs_b f8 => back_bits ?_)
  generalize ef_b : (fun j => decide (j < n_a) && !f_a j) = f_b at hs_b ⊢
  have hb : ∀ j, f_b j = (decide (j < n_a) && !f_a j) := fun j => by rw [← ef_b]
  replace fr := fr.trans f8 fun _ h => h.elim
  have z8 := f8.size
  replace hT := hT.fr0 f8
  replace hs_z := hs_z.fr0 f8
  replace hs_a := hs_a.fr0 f8
  replace bn4 := bn4.fr f8 id
  replace bn14 := bn14.fr f8 id
  refine new_intro fun n19 w9 e9 bn19 f9 z9 => ?_
  replace fr := fr.trans f9 fun _ h => h.elim
  replace hT := hT.fr0 f9
  replace hs_z := hs_z.fr0 f9
  replace hs_a := hs_a.fr0 f9
  replace hs_b := hs_b.fr0 f9
  replace bn4 := bn4.fr f9 id
  replace bn14 := bn14.fr f9 id
  refine store_intro bn19 (by simp) rfl fun w10 bn19 f10 z10 => ?_
  replace fr := fr.trans f10 fun x (e : x = n19) => .inr (by omega)
  replace hT := hT.fr f10 (show ¬ 0 = n19 by omega)
  replace hs_z := hs_z.st f10 (by omega)
  replace hs_a := hs_a.st f10 (by omega)
  replace hs_b := hs_b.st f10 (by omega)
  replace bn4 := bn4.fr f10 (show ¬ n4 = n19 by omega)
  replace bn14 := bn14.fr f10 (show ¬ n14 = n19 by omega)
  refine store_intro bn19 (by simp) rfl fun w11 bn19 f11 z11 => ?_
  replace fr := fr.trans f11 fun x (e : x = n19) => .inr (by omega)
  replace hT := hT.fr f11 (show ¬ 0 = n19 by omega)
  replace hs_z := hs_z.st f11 (by omega)
  replace hs_a := hs_a.st f11 (by omega)
  replace hs_b := hs_b.st f11 (by omega)
  replace bn4 := bn4.fr f11 (show ¬ n4 = n19 by omega)
  replace bn14 := bn14.fr f11 (show ¬ n14 = n19 by omega)
  refine load_int bn14 rfl ?_
  rw [beq_eq_false_iff_ne.2 (by omega : ((n_a : Nat) : Int) ≠ 0), BIf_false]
  refine load_int bn14 rfl ?_
  refine ⟨by omega, ?_⟩
  refine bind_intro ?_
  have eu : remI (IntKind.wrap .u64 (a : Int)) ((n_a : Nat) : Int) = ((a % n_a : Nat) : Int) := by rw [wrap_u64 (by omega) (by omega), remI_eq (by omega)]; omega
  rw [eu]
  have hu : a % n_a < n_a := Nat.mod_lt _ (by omega)
  generalize a % n_a = u at hu
  refine load_int bn14 rfl ?_
  refine load_slice bn14 rfl ?_
  refine F14_call (C14 (by omega) hs_a hT (by omega) fun m_n r_n w12 hr_n f12 => back_two ?_)
  replace fr := fr.trans f12 fun _ h => h.elim
  have z12 := f12.size
  replace hT := hT.fr0 f12
  replace hs_z := hs_z.fr0 f12
  replace hs_a := hs_a.fr0 f12
  replace hs_b := hs_b.fr0 f12
  replace bn4 := bn4.fr f12 id
  replace bn14 := bn14.fr f12 id
  replace bn19 := bn19.fr f12 id
  refine load_int bn19 rfl ?_
  refine load_slice bn19 rfl ?_
  refine F10_call (C10 (by omega) hs_b hT (by omega) fun m_m r_m w13 hr_m f13 => back_two ?_)
  replace fr := fr.trans f13 fun _ h => h.elim
  have z13 := f13.size
  replace hT := hT.fr0 f13
  replace hs_z := hs_z.fr0 f13
  replace hs_a := hs_a.fr0 f13
  replace hs_b := hs_b.fr0 f13
  replace bn4 := bn4.fr f13 id
  replace bn14 := bn14.fr f13 id
  replace bn19 := bn19.fr f13 id
  refine drw_intro fun w14 f14 z14 => ?_
  replace fr := fr.trans f14 fun _ h => h.elim
  replace hT := hT.fr0 f14
  replace hs_z := hs_z.fr0 f14
  replace hs_a := hs_a.fr0 f14
  replace hs_b := hs_b.fr0 f14
  replace bn4 := bn4.fr f14 id
  replace bn14 := bn14.fr f14 id
  replace bn19 := bn19.fr f14 id
  refine load_int bn19 rfl ?_
  refine load_slice bn19 rfl ?_
  refine load_int bn14 rfl ?_
  refine load_slice bn14 rfl ?_
  refine F21_call (C21  (by omega) hs_b fun p_c c_c w15 hs_c f15 => back_bits ?_)
  generalize ef_c : (fun j => decide (j < n_a) && !f_b j) = f_c at hs_c ⊢
  have hc : ∀ j, f_c j = f_a j := fun j => by
      rw [← ef_c]; simp only [hb]
      cases h : f_a j with
      | true => rw [decide_eq_true (hs_a.lt j h)]; rfl
      | false => cases decide (j < n_a) <;> rfl
  replace fr := fr.trans f15 fun _ h => h.elim
  have z15 := f15.size
  replace hT := hT.fr0 f15
  replace hs_z := hs_z.fr0 f15
  replace hs_a := hs_a.fr0 f15
  replace hs_b := hs_b.fr0 f15
  replace bn4 := bn4.fr f15 id
  replace bn14 := bn14.fr f15 id
  replace bn19 := bn19.fr f15 id
  refine Chk1_iff.2 ⟨by rw [bn14.cell]; rfl, ?_⟩
  refine Chk1_iff.2 ⟨by rw [bn14.cell]; rfl, ?_⟩
  refine F22_call (C22 (by omega) hs_c hs_a (rfl) (fun j => hc j) fun w16 f16 => back_bool ?_)
  replace fr := fr.trans f16 fun _ h => h.elim
  have z16 := f16.size
  replace hT := hT.fr0 f16
  replace hs_z := hs_z.fr0 f16
  replace hs_a := hs_a.fr0 f16
  replace hs_b := hs_b.fr0 f16
  replace hs_c := hs_c.fr0 f16
  replace bn4 := bn4.fr f16 id
  replace bn14 := bn14.fr f16 id
  replace bn19 := bn19.fr f16 id
  refine Chk1_iff.2 ⟨by rw [bn19.cell]; rfl, ?_⟩
  refine Chk1_iff.2 ⟨by rw [bn19.cell]; rfl, ?_⟩
  rw [BIf_true]
  refine load_int bn14 rfl ?_
  refine load_slice bn14 rfl ?_
  refine load_int bn19 rfl ?_
  refine load_slice bn19 rfl ?_
  refine load_int bn14 rfl ?_
  refine load_slice bn14 rfl ?_
  refine F18_call (C18  (by omega) hs_a fun w17 f17 => back_int ?_)
  replace fr := fr.trans f17 fun _ h => h.elim
  have z17 := f17.size
  replace hT := hT.fr0 f17
  replace hs_z := hs_z.fr0 f17
  replace hs_a := hs_a.fr0 f17
  replace hs_b := hs_b.fr0 f17
  replace hs_c := hs_c.fr0 f17
  replace bn4 := bn4.fr f17 id
  replace bn14 := bn14.fr f17 id
  replace bn19 := bn19.fr f17 id
  refine Chk1_iff.2 ⟨by rw [bn14.cell]; rfl, ?_⟩
  refine Chk1_iff.2 ⟨by rw [bn14.cell]; rfl, ?_⟩
  refine Chk1_iff.2 ⟨by rw [bn19.cell]; rfl, ?_⟩
  refine Chk1_iff.2 ⟨by rw [bn19.cell]; rfl, ?_⟩
  refine Chk1_iff.2 ⟨by rw [bn14.cell]; rfl, ?_⟩
  refine Chk1_iff.2 ⟨by rw [bn14.cell]; rfl, ?_⟩
  refine Chk1_iff.2 ⟨by rw [bn19.cell]; rfl, ?_⟩
  refine Chk1_iff.2 ⟨by rw [bn19.cell]; rfl, ?_⟩
  refine F18_call (C18  (by omega) hs_b fun w18 f18 => back_int ?_)
  replace fr := fr.trans f18 fun _ h => h.elim
  have z18 := f18.size
  replace hT := hT.fr0 f18
  replace hs_z := hs_z.fr0 f18
  replace hs_a := hs_a.fr0 f18
  replace hs_b := hs_b.fr0 f18
  replace hs_c := hs_c.fr0 f18
  replace bn4 := bn4.fr f18 id
  replace bn14 := bn14.fr f18 id
  replace bn19 := bn19.fr f18 id
  refine Chk1_iff.2 ⟨by rw [bn14.cell]; rfl, ?_⟩
  refine Chk1_iff.2 ⟨by rw [bn14.cell]; rfl, ?_⟩
  refine Chk1_iff.2 ⟨by rw [bn14.cell]; rfl, ?_⟩
  refine Chk1_iff.2 ⟨by rw [bn14.cell]; rfl, ?_⟩
  refine Chk1_iff.2 ⟨by rw [bn14.cell]; rfl, ?_⟩
  refine Chk1_iff.2 ⟨by rw [bn14.cell]; rfl, ?_⟩
  refine Chk1_iff.2 ⟨by rw [bn19.cell]; rfl, ?_⟩
  refine Chk1_iff.2 ⟨by rw [bn19.cell]; rfl, ?_⟩
  refine F23_call (C23  (by omega) hs_a fun w19 f19 => back_int ?_)
  replace fr := fr.trans f19 fun _ h => h.elim
  have z19 := f19.size
  replace hT := hT.fr0 f19
  replace hs_z := hs_z.fr0 f19
  replace hs_a := hs_a.fr0 f19
  replace hs_b := hs_b.fr0 f19
  replace hs_c := hs_c.fr0 f19
  replace bn4 := bn4.fr f19 id
  replace bn14 := bn14.fr f19 id
  replace bn19 := bn19.fr f19 id
  refine Chk1_iff.2 ⟨by rw [bn19.cell]; rfl, ?_⟩
  refine Chk1_iff.2 ⟨by rw [bn19.cell]; rfl, ?_⟩
  refine Chk1_iff.2 ⟨by rw [bn14.cell]; rfl, ?_⟩
  refine Chk1_iff.2 ⟨by rw [bn14.cell]; rfl, ?_⟩
  refine Chk1_iff.2 ⟨by rw [bn14.cell]; rfl, ?_⟩
  refine Chk1_iff.2 ⟨by rw [bn14.cell]; rfl, ?_⟩
  refine Chk1_iff.2 ⟨by rw [bn19.cell]; rfl, ?_⟩
  refine Chk1_iff.2 ⟨by rw [bn19.cell]; rfl, ?_⟩
  have c1 := cnt_compl (f := f_a) (n := n_a) (m := n_a) (Nat.le_refl _)
  have cb : cnt n_a f_b = cnt n_a (fun j => decide (j < n_a) && !f_a j) := by rw [← ef_b]
  have l1 := cnt_le n_a f_a
  rw [← cb] at c1
  rw [addI_nat (by omega), c1, beq_self_eq_true, BIf_true]
  have hnm : r_n = r_m ∧ m_n = m_m := by
    have conv : ∀ j, j < n_a → f_b j = !f_a j := fun j hj => by rw [hb, decide_eq_true hj]; rfl
    rcases hr_n with ⟨rfl, h1, h2, h3, h4⟩ | ⟨rfl, rfl, h1⟩ <;> rcases hr_m with ⟨rfl, g1, g2, g3⟩ | ⟨rfl, rfl, g1⟩
    · refine ⟨rfl, ?_⟩
      rcases Nat.lt_trichotomy m_n m_m with h | h | h
      · have := g3 m_n h1 h; rw [conv _ h2, h3] at this; cases this
      · exact h
      · have hm := hs_b.lt _ g2
        have := h4 m_m g1 h
        rw [conv _ hm, this] at g2; cases g2
    · have := g1 m_n h1; rw [conv _ h2, h3] at this; cases this
    · have hm := hs_b.lt _ g2
      rw [conv _ hm, h1 m_m g1 hm] at g2; cases g2
    · exact ⟨rfl, rfl⟩
  obtain ⟨e1, e2⟩ := hnm
  subst e1 e2
  rw [beq_self_eq_true, BIf_true]
  refine BIf_intro (fun hc9 => ?_) (fun hc9 => ?_)
  · refine load_int bn14 rfl ?_
    refine load_slice bn14 rfl ?_
    refine load_int bn19 rfl ?_
    refine load_slice bn19 rfl ?_
    refine load_int bn14 rfl ?_
    refine load_slice bn14 rfl ?_
    refine F24_call (C24  (by omega) hs_a (by omega) hs_b fun w20 f20 => back_int ?_)
    replace fr := fr.trans f20 fun _ h => h.elim
    have z20 := f20.size
    replace hT := hT.fr0 f20
    replace hs_z := hs_z.fr0 f20
    replace hs_a := hs_a.fr0 f20
    replace hs_b := hs_b.fr0 f20
    replace hs_c := hs_c.fr0 f20
    replace bn4 := bn4.fr f20 id
    replace bn14 := bn14.fr f20 id
    replace bn19 := bn19.fr f20 id
    refine Chk1_iff.2 ⟨by rw [bn14.cell]; rfl, ?_⟩
    refine Chk1_iff.2 ⟨by rw [bn14.cell]; rfl, ?_⟩
    refine Chk1_iff.2 ⟨by rw [bn14.cell]; rfl, ?_⟩
    refine Chk1_iff.2 ⟨by rw [bn14.cell]; rfl, ?_⟩
    refine Chk1_iff.2 ⟨by rw [bn19.cell]; rfl, ?_⟩
    refine Chk1_iff.2 ⟨by rw [bn19.cell]; rfl, ?_⟩
    refine Chk1_iff.2 ⟨by rw [bn14.cell]; rfl, ?_⟩
    refine Chk1_iff.2 ⟨by rw [bn14.cell]; rfl, ?_⟩
    refine Chk1_iff.2 ⟨by rw [bn14.cell]; rfl, ?_⟩
    refine Chk1_iff.2 ⟨by rw [bn14.cell]; rfl, ?_⟩
    refine Chk1_iff.2 ⟨by rw [bn19.cell]; rfl, ?_⟩
    refine Chk1_iff.2 ⟨by rw [bn19.cell]; rfl, ?_⟩
    refine F23_call (C23  (by omega) hs_a fun w21 f21 => back_int ?_)
    replace fr := fr.trans f21 fun _ h => h.elim
    have z21 := f21.size
    replace hT := hT.fr0 f21
    replace hs_z := hs_z.fr0 f21
    replace hs_a := hs_a.fr0 f21
    replace hs_b := hs_b.fr0 f21
    replace hs_c := hs_c.fr0 f21
    replace bn4 := bn4.fr f21 id
    replace bn14 := bn14.fr f21 id
    replace bn19 := bn19.fr f21 id
    refine Chk1_iff.2 ⟨by rw [bn19.cell]; rfl, ?_⟩
    refine Chk1_iff.2 ⟨by rw [bn19.cell]; rfl, ?_⟩
    refine Chk1_iff.2 ⟨by rw [bn14.cell]; rfl, ?_⟩
    refine Chk1_iff.2 ⟨by rw [bn14.cell]; rfl, ?_⟩
    refine Chk1_iff.2 ⟨by rw [bn14.cell]; rfl, ?_⟩
    refine Chk1_iff.2 ⟨by rw [bn14.cell]; rfl, ?_⟩
    refine Chk1_iff.2 ⟨by rw [bn19.cell]; rfl, ?_⟩
    refine Chk1_iff.2 ⟨by rw [bn19.cell]; rfl, ?_⟩
    refine Chk1_iff.2 ⟨by rw [bn14.cell]; rfl, ?_⟩
    refine Chk1_iff.2 ⟨by rw [bn14.cell]; rfl, ?_⟩
    refine Chk1_iff.2 ⟨by rw [bn14.cell]; rfl, ?_⟩
    refine Chk1_iff.2 ⟨by rw [bn14.cell]; rfl, ?_⟩
    refine Chk1_iff.2 ⟨by rw [bn19.cell]; rfl, ?_⟩
    refine Chk1_iff.2 ⟨by rw [bn19.cell]; rfl, ?_⟩
    have c2 : cnt (max n_a n_a) (fun j => f_a j || f_b j) = n_a := by
      rw [Nat.max_self]; exact cnt_full fun j hj => by rw [hb, decide_eq_true hj]; cases f_a j <;> rfl
    rw [c2, beq_self_eq_true, BIf_true]
    refine load_int bn14 rfl ?_
    refine load_slice bn14 rfl ?_
    refine F26_call (C26  (by omega) hs_a fun p_s c_s w22 hs_s f22 => back_bits ?_)
    generalize ef_s : (fun j => decide (j < n_a)) = f_s at hs_s ⊢
    replace fr := fr.trans f22 fun _ h => h.elim
    have z22 := f22.size
    replace hT := hT.fr0 f22
    replace hs_z := hs_z.fr0 f22
    replace hs_a := hs_a.fr0 f22
    replace hs_b := hs_b.fr0 f22
    replace hs_c := hs_c.fr0 f22
    replace bn4 := bn4.fr f22 id
    replace bn14 := bn14.fr f22 id
    replace bn19 := bn19.fr f22 id
    refine Chk1_iff.2 ⟨by rw [bn14.cell]; rfl, ?_⟩
    refine Chk1_iff.2 ⟨by rw [bn14.cell]; rfl, ?_⟩
    refine Chk1_iff.2 ⟨by rw [bn19.cell]; rfl, ?_⟩
    refine Chk1_iff.2 ⟨by rw [bn19.cell]; rfl, ?_⟩
    refine Chk1_iff.2 ⟨by rw [bn14.cell]; rfl, ?_⟩
    refine Chk1_iff.2 ⟨by rw [bn14.cell]; rfl, ?_⟩
    refine Chk1_iff.2 ⟨by rw [bn14.cell]; rfl, ?_⟩
    refine Chk1_iff.2 ⟨by rw [bn14.cell]; rfl, ?_⟩
    refine Chk1_iff.2 ⟨by rw [bn19.cell]; rfl, ?_⟩
    refine Chk1_iff.2 ⟨by rw [bn19.cell]; rfl, ?_⟩
    refine Chk1_iff.2 ⟨by rw [bn14.cell]; rfl, ?_⟩
    refine Chk1_iff.2 ⟨by rw [bn14.cell]; rfl, ?_⟩
    refine Chk1_iff.2 ⟨by rw [bn14.cell]; rfl, ?_⟩
    refine Chk1_iff.2 ⟨by rw [bn14.cell]; rfl, ?_⟩
    refine Chk1_iff.2 ⟨by rw [bn19.cell]; rfl, ?_⟩
    refine Chk1_iff.2 ⟨by rw [bn19.cell]; rfl, ?_⟩
    refine F25_call (C25  (by omega) hs_s fun w23 f23 => back_bool ?_)
    replace fr := fr.trans f23 fun _ h => h.elim
    have z23 := f23.size
    replace hT := hT.fr0 f23
    replace hs_z := hs_z.fr0 f23
    replace hs_a := hs_a.fr0 f23
    replace hs_b := hs_b.fr0 f23
    replace hs_c := hs_c.fr0 f23
    replace hs_s := hs_s.fr0 f23
    replace bn4 := bn4.fr f23 id
    replace bn14 := bn14.fr f23 id
    replace bn19 := bn19.fr f23 id
    refine Chk1_iff.2 ⟨by rw [bn14.cell]; rfl, ?_⟩
    refine Chk1_iff.2 ⟨by rw [bn14.cell]; rfl, ?_⟩
    refine Chk1_iff.2 ⟨by rw [bn14.cell]; rfl, ?_⟩
    refine Chk1_iff.2 ⟨by rw [bn14.cell]; rfl, ?_⟩
    refine Chk1_iff.2 ⟨by rw [bn19.cell]; rfl, ?_⟩
    refine Chk1_iff.2 ⟨by rw [bn19.cell]; rfl, ?_⟩
    refine Chk1_iff.2 ⟨by rw [bn14.cell]; rfl, ?_⟩
    refine Chk1_iff.2 ⟨by rw [bn14.cell]; rfl, ?_⟩
    refine Chk1_iff.2 ⟨by rw [bn14.cell]; rfl, ?_⟩
    refine Chk1_iff.2 ⟨by rw [bn14.cell]; rfl, ?_⟩
    refine Chk1_iff.2 ⟨by rw [bn19.cell]; rfl, ?_⟩
    refine Chk1_iff.2 ⟨by rw [bn19.cell]; rfl, ?_⟩
    refine Chk1_iff.2 ⟨by rw [bn14.cell]; rfl, ?_⟩
    refine Chk1_iff.2 ⟨by rw [bn14.cell]; rfl, ?_⟩
    refine Chk1_iff.2 ⟨by rw [bn14.cell]; rfl, ?_⟩
    refine Chk1_iff.2 ⟨by rw [bn14.cell]; rfl, ?_⟩
    refine Chk1_iff.2 ⟨by rw [bn19.cell]; rfl, ?_⟩
    refine Chk1_iff.2 ⟨by rw [bn19.cell]; rfl, ?_⟩
    have c3 : cnt n_a f_s = n_a := cnt_full fun j hj => by rw [← ef_s]; exact decide_eq_true hj
    rw [decide_eq_true c3, BIf_true]
    refine load_int bn14 rfl ?_
    refine load_slice bn14 rfl ?_
    refine load_int bn19 rfl ?_
    refine load_slice bn19 rfl ?_
    refine F28_call (C28  (by omega) hs_a (by omega) hs_b fun p_t c_t w24 hs_t f24 => back_bits ?_)
    generalize en_t : (min n_a n_a) = n_t at hs_t ⊢
    generalize ef_t : (fun j => f_a j && f_b j) = f_t at hs_t ⊢
    replace fr := fr.trans f24 fun _ h => h.elim
    have z24 := f24.size
    replace hT := hT.fr0 f24
    replace hs_z := hs_z.fr0 f24
    replace hs_a := hs_a.fr0 f24
    replace hs_b := hs_b.fr0 f24
    replace hs_c := hs_c.fr0 f24
    replace hs_s := hs_s.fr0 f24
    replace bn4 := bn4.fr f24 id
    replace bn14 := bn14.fr f24 id
    replace bn19 := bn19.fr f24 id
    refine Chk1_iff.2 ⟨by rw [bn14.cell]; rfl, ?_⟩
    refine Chk1_iff.2 ⟨by rw [bn14.cell]; rfl, ?_⟩
    refine Chk1_iff.2 ⟨by rw [bn14.cell]; rfl, ?_⟩
    refine Chk1_iff.2 ⟨by rw [bn14.cell]; rfl, ?_⟩
    refine Chk1_iff.2 ⟨by rw [bn19.cell]; rfl, ?_⟩
    refine Chk1_iff.2 ⟨by rw [bn19.cell]; rfl, ?_⟩
    refine Chk1_iff.2 ⟨by rw [bn14.cell]; rfl, ?_⟩
    refine Chk1_iff.2 ⟨by rw [bn14.cell]; rfl, ?_⟩
    refine Chk1_iff.2 ⟨by rw [bn14.cell]; rfl, ?_⟩
    refine Chk1_iff.2 ⟨by rw [bn14.cell]; rfl, ?_⟩
    refine Chk1_iff.2 ⟨by rw [bn19.cell]; rfl, ?_⟩
    refine Chk1_iff.2 ⟨by rw [bn19.cell]; rfl, ?_⟩
    refine Chk1_iff.2 ⟨by rw [bn14.cell]; rfl, ?_⟩
    refine Chk1_iff.2 ⟨by rw [bn14.cell]; rfl, ?_⟩
    refine Chk1_iff.2 ⟨by rw [bn14.cell]; rfl, ?_⟩
    refine Chk1_iff.2 ⟨by rw [bn14.cell]; rfl, ?_⟩
    refine Chk1_iff.2 ⟨by rw [bn19.cell]; rfl, ?_⟩
    refine Chk1_iff.2 ⟨by rw [bn19.cell]; rfl, ?_⟩
    refine F27_call (C27  (by omega) hs_t fun r_e w25 hr_e f25 => back_bool ?_)
    replace fr := fr.trans f25 fun _ h => h.elim
    have z25 := f25.size
    replace hT := hT.fr0 f25
    replace hs_z := hs_z.fr0 f25
    replace hs_a := hs_a.fr0 f25
    replace hs_b := hs_b.fr0 f25
    replace hs_c := hs_c.fr0 f25
    replace hs_s := hs_s.fr0 f25
    replace hs_t := hs_t.fr0 f25
    replace bn4 := bn4.fr f25 id
    replace bn14 := bn14.fr f25 id
    replace bn19 := bn19.fr f25 id
    refine Chk1_iff.2 ⟨by rw [bn19.cell]; rfl, ?_⟩
    refine Chk1_iff.2 ⟨by rw [bn19.cell]; rfl, ?_⟩
    refine Chk1_iff.2 ⟨by rw [bn14.cell]; rfl, ?_⟩
    refine Chk1_iff.2 ⟨by rw [bn14.cell]; rfl, ?_⟩
    refine Chk1_iff.2 ⟨by rw [bn14.cell]; rfl, ?_⟩
    refine Chk1_iff.2 ⟨by rw [bn14.cell]; rfl, ?_⟩
    refine Chk1_iff.2 ⟨by rw [bn14.cell]; rfl, ?_⟩
    refine Chk1_iff.2 ⟨by rw [bn14.cell]; rfl, ?_⟩
    refine Chk1_iff.2 ⟨by rw [bn19.cell]; rfl, ?_⟩
    refine Chk1_iff.2 ⟨by rw [bn19.cell]; rfl, ?_⟩
    refine Chk1_iff.2 ⟨by rw [bn14.cell]; rfl, ?_⟩
    refine Chk1_iff.2 ⟨by rw [bn14.cell]; rfl, ?_⟩
    refine Chk1_iff.2 ⟨by rw [bn14.cell]; rfl, ?_⟩
    refine Chk1_iff.2 ⟨by rw [bn14.cell]; rfl, ?_⟩
    refine Chk1_iff.2 ⟨by rw [bn19.cell]; rfl, ?_⟩
    refine Chk1_iff.2 ⟨by rw [bn19.cell]; rfl, ?_⟩
    refine Chk1_iff.2 ⟨by rw [bn14.cell]; rfl, ?_⟩
    refine Chk1_iff.2 ⟨by rw [bn14.cell]; rfl, ?_⟩
    refine Chk1_iff.2 ⟨by rw [bn14.cell]; rfl, ?_⟩
    refine Chk1_iff.2 ⟨by rw [bn14.cell]; rfl, ?_⟩
    refine Chk1_iff.2 ⟨by rw [bn19.cell]; rfl, ?_⟩
    refine Chk1_iff.2 ⟨by rw [bn19.cell]; rfl, ?_⟩
    have t_e : r_e = true := hr_e.2 fun j => by
      rw [← ef_t]; simp only [hb]; cases f_a j <;> simp
    rw [t_e, BIf_true]
    refine load_int bn14 rfl ?_
    refine load_slice bn14 rfl ?_
    refine F18_call (C18  (by omega) hs_a fun w26 f26 => back_int ?_)
    replace fr := fr.trans f26 fun _ h => h.elim
    have z26 := f26.size
    replace hT := hT.fr0 f26
    replace hs_z := hs_z.fr0 f26
    replace hs_a := hs_a.fr0 f26
    replace hs_b := hs_b.fr0 f26
    replace hs_c := hs_c.fr0 f26
    replace hs_s := hs_s.fr0 f26
    replace hs_t := hs_t.fr0 f26
    replace bn4 := bn4.fr f26 id
    replace bn14 := bn14.fr f26 id
    replace bn19 := bn19.fr f26 id
    refine Chk1_iff.2 ⟨by rw [bn19.cell]; rfl, ?_⟩
    refine Chk1_iff.2 ⟨by rw [bn19.cell]; rfl, ?_⟩
    refine Chk1_iff.2 ⟨by rw [bn14.cell]; rfl, ?_⟩
    refine Chk1_iff.2 ⟨by rw [bn14.cell]; rfl, ?_⟩
    refine Chk1_iff.2 ⟨by rw [bn14.cell]; rfl, ?_⟩
    refine Chk1_iff.2 ⟨by rw [bn14.cell]; rfl, ?_⟩
    refine Chk1_iff.2 ⟨by rw [bn14.cell]; rfl, ?_⟩
    refine Chk1_iff.2 ⟨by rw [bn14.cell]; rfl, ?_⟩
    refine Chk1_iff.2 ⟨by rw [bn19.cell]; rfl, ?_⟩
    refine Chk1_iff.2 ⟨by rw [bn19.cell]; rfl, ?_⟩
    refine Chk1_iff.2 ⟨by rw [bn14.cell]; rfl, ?_⟩
    refine Chk1_iff.2 ⟨by rw [bn14.cell]; rfl, ?_⟩
    refine Chk1_iff.2 ⟨by rw [bn14.cell]; rfl, ?_⟩
    refine Chk1_iff.2 ⟨by rw [bn14.cell]; rfl, ?_⟩
    refine Chk1_iff.2 ⟨by rw [bn19.cell]; rfl, ?_⟩
    refine Chk1_iff.2 ⟨by rw [bn19.cell]; rfl, ?_⟩
    refine Chk1_iff.2 ⟨by rw [bn14.cell]; rfl, ?_⟩
    refine Chk1_iff.2 ⟨by rw [bn14.cell]; rfl, ?_⟩
    refine Chk1_iff.2 ⟨by rw [bn14.cell]; rfl, ?_⟩
    refine Chk1_iff.2 ⟨by rw [bn14.cell]; rfl, ?_⟩
    refine Chk1_iff.2 ⟨by rw [bn19.cell]; rfl, ?_⟩
    refine Chk1_iff.2 ⟨by rw [bn19.cell]; rfl, ?_⟩
    have hpos := cnt_any hin hat
    rw [decide_eq_true (by omega)]
    exact hk _ fr
  · rw [beq_self_eq_true, BIf_true]
    refine load_int bn14 rfl ?_
    refine load_slice bn14 rfl ?_
    refine load_int bn19 rfl ?_
    refine load_slice bn19 rfl ?_
    refine load_int bn14 rfl ?_
    refine load_slice bn14 rfl ?_
    refine F24_call (C24  (by omega) hs_a (by omega) hs_b fun w20 f20 => back_int ?_)
    replace fr := fr.trans f20 fun _ h => h.elim
    have z20 := f20.size
    replace hT := hT.fr0 f20
    replace hs_z := hs_z.fr0 f20
    replace hs_a := hs_a.fr0 f20
    replace hs_b := hs_b.fr0 f20
    replace hs_c := hs_c.fr0 f20
    replace bn4 := bn4.fr f20 id
    replace bn14 := bn14.fr f20 id
    replace bn19 := bn19.fr f20 id
    refine Chk1_iff.2 ⟨by rw [bn14.cell]; rfl, ?_⟩
    refine Chk1_iff.2 ⟨by rw [bn14.cell]; rfl, ?_⟩
    refine Chk1_iff.2 ⟨by rw [bn14.cell]; rfl, ?_⟩
    refine Chk1_iff.2 ⟨by rw [bn14.cell]; rfl, ?_⟩
    refine Chk1_iff.2 ⟨by rw [bn19.cell]; rfl, ?_⟩
    refine Chk1_iff.2 ⟨by rw [bn19.cell]; rfl, ?_⟩
    refine Chk1_iff.2 ⟨by rw [bn14.cell]; rfl, ?_⟩
    refine Chk1_iff.2 ⟨by rw [bn14.cell]; rfl, ?_⟩
    refine Chk1_iff.2 ⟨by rw [bn14.cell]; rfl, ?_⟩
    refine Chk1_iff.2 ⟨by rw [bn14.cell]; rfl, ?_⟩
    refine Chk1_iff.2 ⟨by rw [bn19.cell]; rfl, ?_⟩
    refine Chk1_iff.2 ⟨by rw [bn19.cell]; rfl, ?_⟩
    refine F23_call (C23  (by omega) hs_a fun w21 f21 => back_int ?_)
    replace fr := fr.trans f21 fun _ h => h.elim
    have z21 := f21.size
    replace hT := hT.fr0 f21
    replace hs_z := hs_z.fr0 f21
    replace hs_a := hs_a.fr0 f21
    replace hs_b := hs_b.fr0 f21
    replace hs_c := hs_c.fr0 f21
    replace bn4 := bn4.fr f21 id
    replace bn14 := bn14.fr f21 id
    replace bn19 := bn19.fr f21 id
    refine Chk1_iff.2 ⟨by rw [bn19.cell]; rfl, ?_⟩
    refine Chk1_iff.2 ⟨by rw [bn19.cell]; rfl, ?_⟩
    refine Chk1_iff.2 ⟨by rw [bn14.cell]; rfl, ?_⟩
    refine Chk1_iff.2 ⟨by rw [bn14.cell]; rfl, ?_⟩
    refine Chk1_iff.2 ⟨by rw [bn14.cell]; rfl, ?_⟩
    refine Chk1_iff.2 ⟨by rw [bn14.cell]; rfl, ?_⟩
    refine Chk1_iff.2 ⟨by rw [bn19.cell]; rfl, ?_⟩
    refine Chk1_iff.2 ⟨by rw [bn19.cell]; rfl, ?_⟩
    refine Chk1_iff.2 ⟨by rw [bn14.cell]; rfl, ?_⟩
    refine Chk1_iff.2 ⟨by rw [bn14.cell]; rfl, ?_⟩
    refine Chk1_iff.2 ⟨by rw [bn14.cell]; rfl, ?_⟩
    refine Chk1_iff.2 ⟨by rw [bn14.cell]; rfl, ?_⟩
    refine Chk1_iff.2 ⟨by rw [bn19.cell]; rfl, ?_⟩
    refine Chk1_iff.2 ⟨by rw [bn19.cell]; rfl, ?_⟩
    have c2 : cnt (max n_a n_a) (fun j => f_a j || f_b j) = n_a := by
      rw [Nat.max_self]; exact cnt_full fun j hj => by rw [hb, decide_eq_true hj]; cases f_a j <;> rfl
    rw [c2, beq_self_eq_true, BIf_true]
    refine load_int bn14 rfl ?_
    refine load_slice bn14 rfl ?_
    refine F26_call (C26  (by omega) hs_a fun p_s c_s w22 hs_s f22 => back_bits ?_)
    generalize ef_s : (fun j => decide (j < n_a)) = f_s at hs_s ⊢
    replace fr := fr.trans f22 fun _ h => h.elim
    have z22 := f22.size
    replace hT := hT.fr0 f22
    replace hs_z := hs_z.fr0 f22
    replace hs_a := hs_a.fr0 f22
    replace hs_b := hs_b.fr0 f22
    replace hs_c := hs_c.fr0 f22
    replace bn4 := bn4.fr f22 id
    replace bn14 := bn14.fr f22 id
    replace bn19 := bn19.fr f22 id
    refine Chk1_iff.2 ⟨by rw [bn14.cell]; rfl, ?_⟩
    refine Chk1_iff.2 ⟨by rw [bn14.cell]; rfl, ?_⟩
    refine Chk1_iff.2 ⟨by rw [bn19.cell]; rfl, ?_⟩
    refine Chk1_iff.2 ⟨by rw [bn19.cell]; rfl, ?_⟩
    refine Chk1_iff.2 ⟨by rw [bn14.cell]; rfl, ?_⟩
    refine Chk1_iff.2 ⟨by rw [bn14.cell]; rfl, ?_⟩
    refine Chk1_iff.2 ⟨by rw [bn14.cell]; rfl, ?_⟩
    refine Chk1_iff.2 ⟨by rw [bn14.cell]; rfl, ?_⟩
    refine Chk1_iff.2 ⟨by rw [bn19.cell]; rfl, ?_⟩
    refine Chk1_iff.2 ⟨by rw [bn19.cell]; rfl, ?_⟩
    refine Chk1_iff.2 ⟨by rw [bn14.cell]; rfl, ?_⟩
    refine Chk1_iff.2 ⟨by rw [bn14.cell]; rfl, ?_⟩
    refine Chk1_iff.2 ⟨by rw [bn14.cell]; rfl, ?_⟩
    refine Chk1_iff.2 ⟨by rw [bn14.cell]; rfl, ?_⟩
    refine Chk1_iff.2 ⟨by rw [bn19.cell]; rfl, ?_⟩
    refine Chk1_iff.2 ⟨by rw [bn19.cell]; rfl, ?_⟩
    refine F25_call (C25  (by omega) hs_s fun w23 f23 => back_bool ?_)
    replace fr := fr.trans f23 fun _ h => h.elim
    have z23 := f23.size
    replace hT := hT.fr0 f23
    replace hs_z := hs_z.fr0 f23
    replace hs_a := hs_a.fr0 f23
    replace hs_b := hs_b.fr0 f23
    replace hs_c := hs_c.fr0 f23
    replace hs_s := hs_s.fr0 f23
    replace bn4 := bn4.fr f23 id
    replace bn14 := bn14.fr f23 id
    replace bn19 := bn19.fr f23 id
    refine Chk1_iff.2 ⟨by rw [bn14.cell]; rfl, ?_⟩
    refine Chk1_iff.2 ⟨by rw [bn14.cell]; rfl, ?_⟩
    refine Chk1_iff.2 ⟨by rw [bn14.cell]; rfl, ?_⟩
    refine Chk1_iff.2 ⟨by rw [bn14.cell]; rfl, ?_⟩
    refine Chk1_iff.2 ⟨by rw [bn19.cell]; rfl, ?_⟩
    refine Chk1_iff.2 ⟨by rw [bn19.cell]; rfl, ?_⟩
    refine Chk1_iff.2 ⟨by rw [bn14.cell]; rfl, ?_⟩
    refine Chk1_iff.2 ⟨by rw [bn14.cell]; rfl, ?_⟩
    refine Chk1_iff.2 ⟨by rw [bn14.cell]; rfl, ?_⟩
    refine Chk1_iff.2 ⟨by rw [bn14.cell]; rfl, ?_⟩
    refine Chk1_iff.2 ⟨by rw [bn19.cell]; rfl, ?_⟩
    refine Chk1_iff.2 ⟨by rw [bn19.cell]; rfl, ?_⟩
    refine Chk1_iff.2 ⟨by rw [bn14.cell]; rfl, ?_⟩
    refine Chk1_iff.2 ⟨by rw [bn14.cell]; rfl, ?_⟩
    refine Chk1_iff.2 ⟨by rw [bn14.cell]; rfl, ?_⟩
    refine Chk1_iff.2 ⟨by rw [bn14.cell]; rfl, ?_⟩
    refine Chk1_iff.2 ⟨by rw [bn19.cell]; rfl, ?_⟩
    refine Chk1_iff.2 ⟨by rw [bn19.cell]; rfl, ?_⟩
    have c3 : cnt n_a f_s = n_a := cnt_full fun j hj => by rw [← ef_s]; exact decide_eq_true hj
    rw [decide_eq_true c3, BIf_true]
    refine load_int bn14 rfl ?_
    refine load_slice bn14 rfl ?_
    refine load_int bn19 rfl ?_
    refine load_slice bn19 rfl ?_
    refine F28_call (C28  (by omega) hs_a (by omega) hs_b fun p_t c_t w24 hs_t f24 => back_bits ?_)
    generalize en_t : (min n_a n_a) = n_t at hs_t ⊢
    generalize ef_t : (fun j => f_a j && f_b j) = f_t at hs_t ⊢
    replace fr := fr.trans f24 fun _ h => h.elim
    have z24 := f24.size
    replace hT := hT.fr0 f24
    replace hs_z := hs_z.fr0 f24
    replace hs_a := hs_a.fr0 f24
    replace hs_b := hs_b.fr0 f24
    replace hs_c := hs_c.fr0 f24
    replace hs_s := hs_s.fr0 f24
    replace bn4 := bn4.fr f24 id
    replace bn14 := bn14.fr f24 id
    replace bn19 := bn19.fr f24 id
    refine Chk1_iff.2 ⟨by rw [bn14.cell]; rfl, ?_⟩
    refine Chk1_iff.2 ⟨by rw [bn14.cell]; rfl, ?_⟩
    refine Chk1_iff.2 ⟨by rw [bn14.cell]; rfl, ?_⟩
    refine Chk1_iff.2 ⟨by rw [bn14.cell]; rfl, ?_⟩
    refine Chk1_iff.2 ⟨by rw [bn19.cell]; rfl, ?_⟩
    refine Chk1_iff.2 ⟨by rw [bn19.cell]; rfl, ?_⟩
    refine Chk1_iff.2 ⟨by rw [bn14.cell]; rfl, ?_⟩
    refine Chk1_iff.2 ⟨by rw [bn14.cell]; rfl, ?_⟩
    refine Chk1_iff.2 ⟨by rw [bn14.cell]; rfl, ?_⟩
    refine Chk1_iff.2 ⟨by rw [bn14.cell]; rfl, ?_⟩
    refine Chk1_iff.2 ⟨by rw [bn19.cell]; rfl, ?_⟩
    refine Chk1_iff.2 ⟨by rw [bn19.cell]; rfl, ?_⟩
    refine Chk1_iff.2 ⟨by rw [bn14.cell]; rfl, ?_⟩
    refine Chk1_iff.2 ⟨by rw [bn14.cell]; rfl, ?_⟩
    refine Chk1_iff.2 ⟨by rw [bn14.cell]; rfl, ?_⟩
    refine Chk1_iff.2 ⟨by rw [bn14.cell]; rfl, ?_⟩
    refine Chk1_iff.2 ⟨by rw [bn19.cell]; rfl, ?_⟩
    refine Chk1_iff.2 ⟨by rw [bn19.cell]; rfl, ?_⟩
    refine F27_call (C27  (by omega) hs_t fun r_e w25 hr_e f25 => back_bool ?_)
    replace fr := fr.trans f25 fun _ h => h.elim
    have z25 := f25.size
    replace hT := hT.fr0 f25
    replace hs_z := hs_z.fr0 f25
    replace hs_a := hs_a.fr0 f25
    replace hs_b := hs_b.fr0 f25
    replace hs_c := hs_c.fr0 f25
    replace hs_s := hs_s.fr0 f25
    replace hs_t := hs_t.fr0 f25
    replace bn4 := bn4.fr f25 id
    replace bn14 := bn14.fr f25 id
    replace bn19 := bn19.fr f25 id
    refine Chk1_iff.2 ⟨by rw [bn19.cell]; rfl, ?_⟩
    refine Chk1_iff.2 ⟨by rw [bn19.cell]; rfl, ?_⟩
    refine Chk1_iff.2 ⟨by rw [bn14.cell]; rfl, ?_⟩
    refine Chk1_iff.2 ⟨by rw [bn14.cell]; rfl, ?_⟩
    refine Chk1_iff.2 ⟨by rw [bn14.cell]; rfl, ?_⟩
    refine Chk1_iff.2 ⟨by rw [bn14.cell]; rfl, ?_⟩
    refine Chk1_iff.2 ⟨by rw [bn14.cell]; rfl, ?_⟩
    refine Chk1_iff.2 ⟨by rw [bn14.cell]; rfl, ?_⟩
    refine Chk1_iff.2 ⟨by rw [bn19.cell]; rfl, ?_⟩
    refine Chk1_iff.2 ⟨by rw [bn19.cell]; rfl, ?_⟩
    refine Chk1_iff.2 ⟨by rw [bn14.cell]; rfl, ?_⟩
    refine Chk1_iff.2 ⟨by rw [bn14.cell]; rfl, ?_⟩
    refine Chk1_iff.2 ⟨by rw [bn14.cell]; rfl, ?_⟩
    refine Chk1_iff.2 ⟨by rw [bn14.cell]; rfl, ?_⟩
    refine Chk1_iff.2 ⟨by rw [bn19.cell]; rfl, ?_⟩
    refine Chk1_iff.2 ⟨by rw [bn19.cell]; rfl, ?_⟩
    refine Chk1_iff.2 ⟨by rw [bn14.cell]; rfl, ?_⟩
    refine Chk1_iff.2 ⟨by rw [bn14.cell]; rfl, ?_⟩
    refine Chk1_iff.2 ⟨by rw [bn14.cell]; rfl, ?_⟩
    refine Chk1_iff.2 ⟨by rw [bn14.cell]; rfl, ?_⟩
    refine Chk1_iff.2 ⟨by rw [bn19.cell]; rfl, ?_⟩
    refine Chk1_iff.2 ⟨by rw [bn19.cell]; rfl, ?_⟩
    have t_e : r_e = true := hr_e.2 fun j => by
      rw [← ef_t]; simp only [hb]; cases f_a j <;> simp
    rw [t_e, BIf_true]
    refine load_int bn14 rfl ?_
    refine load_slice bn14 rfl ?_
    refine F18_call (C18  (by omega) hs_a fun w26 f26 => back_int ?_)
    replace fr := fr.trans f26 fun _ h => h.elim
    have z26 := f26.size
    replace hT := hT.fr0 f26
    replace hs_z := hs_z.fr0 f26
    replace hs_a := hs_a.fr0 f26
    replace hs_b := hs_b.fr0 f26
    replace hs_c := hs_c.fr0 f26
    replace hs_s := hs_s.fr0 f26
    replace hs_t := hs_t.fr0 f26
    replace bn4 := bn4.fr f26 id
    replace bn14 := bn14.fr f26 id
    replace bn19 := bn19.fr f26 id
    refine Chk1_iff.2 ⟨by rw [bn19.cell]; rfl, ?_⟩
    refine Chk1_iff.2 ⟨by rw [bn19.cell]; rfl, ?_⟩
    refine Chk1_iff.2 ⟨by rw [bn14.cell]; rfl, ?_⟩
    refine Chk1_iff.2 ⟨by rw [bn14.cell]; rfl, ?_⟩
    refine Chk1_iff.2 ⟨by rw [bn14.cell]; rfl, ?_⟩
    refine Chk1_iff.2 ⟨by rw [bn14.cell]; rfl, ?_⟩
    refine Chk1_iff.2 ⟨by rw [bn14.cell]; rfl, ?_⟩
    refine Chk1_iff.2 ⟨by rw [bn14.cell]; rfl, ?_⟩
    refine Chk1_iff.2 ⟨by rw [bn19.cell]; rfl, ?_⟩
    refine Chk1_iff.2 ⟨by rw [bn19.cell]; rfl, ?_⟩
    refine Chk1_iff.2 ⟨by rw [bn14.cell]; rfl, ?_⟩
    refine Chk1_iff.2 ⟨by rw [bn14.cell]; rfl, ?_⟩
    refine Chk1_iff.2 ⟨by rw [bn14.cell]; rfl, ?_⟩
    refine Chk1_iff.2 ⟨by rw [bn14.cell]; rfl, ?_⟩
    refine Chk1_iff.2 ⟨by rw [bn19.cell]; rfl, ?_⟩
    refine Chk1_iff.2 ⟨by rw [bn19.cell]; rfl, ?_⟩
    refine Chk1_iff.2 ⟨by rw [bn14.cell]; rfl, ?_⟩
    refine Chk1_iff.2 ⟨by rw [bn14.cell]; rfl, ?_⟩
    refine Chk1_iff.2 ⟨by rw [bn14.cell]; rfl, ?_⟩
    refine Chk1_iff.2 ⟨by rw [bn14.cell]; rfl, ?_⟩
    refine Chk1_iff.2 ⟨by rw [bn19.cell]; rfl, ?_⟩
    refine Chk1_iff.2 ⟨by rw [bn19.cell]; rfl, ?_⟩
    have hpos := cnt_any hin hat
    rw [decide_eq_true (by omega)]
    exact hk _ fr

theorem F3_J1_spec {n_a c_a lo_a hi_a na lc : Nat} {p_a lp : Option Addr} {f_a : Nat → Bool} {k : Value → W} {w : World} (hs_a : BV w lo_a hi_a n_a p_a f_a) (bna : Blk w na 25 [.int .u64 n_a, .slice p_a (L n_a f_a).length c_a]) (hT : Tab w)
    (own : Own w 22 lp (L n_a f_a).length lc (us (L n_a f_a))) (hn : n_a ≤ 400) (h0 : 0 < (L n_a f_a).length)
    (hk : ∀ w', Fr (fun _ => False) w w' → k (.bool true) w') : F3_J1 k ⟨na, 0, none⟩ lp (L n_a f_a).length lc w := by
  unfold F3_J1
  have hll := L_length_le n_a f_a
  simp only [add_mk, Nat.zero_add, Nat.add_zero]
  rw [decide_eq_true (by omega), BIf_true]
  refine load_int bna rfl ?_
  refine load_slice bna rfl ?_
  refine F12_call (C12 (by omega) hs_a hT fun lp12 lc12 w1 hl12 f1 => back_slice ?_)
  have fr := f1
  have z1 := f1.size
  replace hT := hT.fr0 f1
  replace hs_a := hs_a.fr0 f1
  replace own := own.fr f1 fun _ _ h => h
  replace bna := bna.fr f1 id
  refine F11_call (F11_spec own.sees hl12 (by omega) fun w2 f2 => back_bool ?_)
  rw [decide_eq_true rfl]
  replace fr := fr.trans f2 fun _ h => h.elim
  have z2 := f2.size
  replace hT := hT.fr0 f2
  replace hs_a := hs_a.fr0 f2
  replace own := own.fr f2 fun _ _ h => h
  replace hl12 := hl12.fr0 f2
  replace bna := bna.fr f2 id
  rw [BIf_true]
  refine load_int bna rfl ?_
  refine load_slice bna rfl ?_
  refine F13_call (C13 (by omega) hs_a hT fun lp13 lc13 w3 hl13 f3 => back_slice ?_)
  replace fr := fr.trans f3 fun _ h => h.elim
  have z3 := f3.size
  replace hT := hT.fr0 f3
  replace hs_a := hs_a.fr0 f3
  replace own := own.fr f3 fun _ _ h => h
  replace hl12 := hl12.fr0 f3
  replace bna := bna.fr f3 id
  refine F11_call (F11_spec own.sees hl13 (by omega) fun w4 f4 => back_bool ?_)
  rw [decide_eq_true rfl]
  replace fr := fr.trans f4 fun _ h => h.elim
  have z4 := f4.size
  replace hT := hT.fr0 f4
  replace hs_a := hs_a.fr0 f4
  replace own := own.fr f4 fun _ _ h => h
  replace hl12 := hl12.fr0 f4
  replace hl13 := hl13.fr0 f4
  replace bna := bna.fr f4 id
  exact hk _ fr

theorem F3_spec {x l c a : Nat} {p : Option Addr} {k : Value → W} {w : World} (hx : x < 18446744073709551616) (hr : Reads w p l) (ha : a < 65536) (hT : Tab w)
    (hk : ∀ w', Fr (fun _ => False) w w' → k (.bool true) w') : F3 k x p l c a w := by
  unfold F3
  have hp := hT.1
  have hT_w := hT
  have ei : remI (IntKind.wrap .u64 (a : Int)) 400 = ((a % 400 : Nat) : Int) := by rw [wrap_u64 (by omega) (by omega), remI_eq (by omega)]; omega
  rw [ei]
  have hii : a % 400 < 400 := Nat.mod_lt _ (by decide)
  generalize a % 400 = i at hii
  refine new_intro fun n4 w1 e1 bn4 f1 z1 => ?_
  have fr := f1
  replace hr := hr.fr0 f1
  replace hT := hT.fr0 f1
  refine load_int bn4 rfl ?_
  refine load_slice bn4 rfl ?_
  refine F7_call (F7_spec fun fit1 w2 f2 hfit1 => back_bool ?_)
  replace fr := fr.trans f2 fun _ h => h.elim
  have z2 := f2.size
  replace hr := hr.fr0 f2
  replace hT := hT.fr0 f2
  replace bn4 := bn4.fr f2 id
  refine BIf_intro (fun hc => hk _ fr) (fun hc => ?_)
  have hl := hfit1 (by simpa using hc)
  refine load_int bn4 rfl ?_
  refine load_slice bn4 rfl ?_
  refine F9_call (C9 hx hr hl fun n_z f_z p_z c_z w3 hn_z hs_z f3 => back_bits ?_)
  replace fr := fr.trans f3 fun _ h => h.elim
  have z3 := f3.size
  replace hr := hr.fr0 f3
  replace hT := hT.fr0 f3
  replace bn4 := bn4.fr f3 id
  refine ⟨by decide, ?_⟩
  refine F8_call (C8  (by omega) hs_z (by omega) fun p_a c_a w4 hs_a f4 => back_bits ?_)
  generalize en_a : (max n_z (i + 1)) = n_a at hs_a ⊢
  generalize ef_a : (fun j => f_z j || decide (j = i)) = f_a at hs_a ⊢
  have hat : f_a i = true := by rw [← ef_a]; simp
  have hin : i < n_a := hs_a.lt i hat
  have hlt_a := hs_a.lt
  replace fr := fr.trans f4 fun _ h => h.elim
  have z4 := f4.size
  replace hT := hT.fr0 f4
  replace hs_z := hs_z.fr0 f4
  replace bn4 := bn4.fr f4 id
  refine new_intro fun n14 w5 e5 bn14 f5 z5 => ?_
  replace fr := fr.trans f5 fun _ h => h.elim
  replace hT := hT.fr0 f5
  replace hs_z := hs_z.fr0 f5
  replace hs_a := hs_a.fr0 f5
  replace bn4 := bn4.fr f5 id
  refine store_intro bn14 (by simp) rfl fun w6 bn14 f6 z6 => ?_
  replace fr := fr.trans f6 fun x (e : x = n14) => .inr (by omega)
  replace hT := hT.fr f6 (show ¬ 0 = n14 by omega)
  replace hs_z := hs_z.st f6 (by omega)
  replace hs_a := hs_a.st f6 (by omega)
  replace bn4 := bn4.fr f6 (show ¬ n4 = n14 by omega)
  refine store_intro bn14 (by simp) rfl fun w7 bn14 f7 z7 => ?_
  replace fr := fr.trans f7 fun x (e : x = n14) => .inr (by omega)
  replace hT := hT.fr f7 (show ¬ 0 = n14 by omega)
  replace hs_z := hs_z.st f7 (by omega)
  replace hs_a := hs_a.st f7 (by omega)
  replace bn4 := bn4.fr f7 (show ¬ n4 = n14 by omega)
  refine load_int bn14 rfl ?_
  refine load_slice bn14 rfl ?_
  refine F10_call (C10 (i := 0) (by omega) hs_a hT (by omega) fun m_n r_n w8 hr_n f8 => back_two ?_)
  replace fr := fr.trans f8 fun _ h => h.elim
  have z8 := f8.size
  replace hT := hT.fr0 f8
  replace hs_z := hs_z.fr0 f8
  replace hs_a := hs_a.fr0 f8
  replace bn4 := bn4.fr f8 id
  replace bn14 := bn14.fr f8 id
  refine F3_L1_rule (fun a' lp ll lc i' is' w' => a' = ⟨n14, 0, none⟩ ∧ ∃ s m : Nat, i' = (m : Int) ∧ s ≤ 524287 ∧ Next f_a s m is' ∧ ll = (L s f_a).length ∧ Own w' 22 lp ll lc (us (L s f_a)) ∧ (∀ x, bl lp x → n14 < x) ∧ BV w' w3.heap.size w4.heap.size n_a p_a f_a ∧ Blk w' n14 25 [.int .u64 n_a, .slice p_a (L n_a f_a).length c_a] ∧ Fr (fun _ => False) w w')
    (fun _ _ _ _ i' is' _ => if is' then n_a - i'.toNat else 0) ?_ ⟨rfl, 0, m_n, rfl, by omega, hr_n, rfl, Own.nil _ _, (fun x h => by obtain ⟨a, h, _⟩ := h; cases h), hs_a, bn14, fr⟩
  have hT0 := hT
  have hbn := bn14.lt
  have hn14 : w.heap.size ≤ n14 := by omega
  clear hs_a bn14 fr
  rintro a' lp ll lc i' is' w' ⟨rfl, s, m, rfl, hs, hnx, rfl, own, hbl, hs_a, bn, fr⟩
  have hT' := hT_w.fr0 fr
  have done : (∀ j, s ≤ j → f_a j = false) → F3_J1 k ⟨n14, 0, none⟩ lp (L s f_a).length lc w' := by
    intro hz
    have e : L s f_a = L n_a f_a := by
      rcases Nat.le_total s n_a with h | h
      · obtain ⟨d, hd⟩ := Nat.exists_eq_add_of_le h
        rw [hd]; exact (L_none fun j h1 _ => hz j h1).symm
      · exact L_more h hlt_a
    rw [e] at own ⊢
    have hin' : i ∈ L n_a f_a := mem_L.2 ⟨hin, hat⟩
    have h0 : 0 < (L n_a f_a).length := List.length_pos_of_mem hin'
    exact F3_J1_spec hs_a bn hT' own (by omega) h0 fun w9 f9 => hk _ (fr.trans f9 fun _ h => h.elim)
  unfold F3_L1
  rcases hnx with ⟨rfl, h1, h2, h3⟩ | ⟨rfl, rfl, h1⟩
  rotate_left
  · simp only [BIf_false]
    exact done h1
  simp only [BIf_true]
  have hm := hlt_a m h2
  have hls := L_length_le s f_a
  have hln := L_length_le n_a f_a
  have hle : (L s f_a).length ≤ 400 := by
    rw [L_length]
    have h4 : cnt s f_a ≤ cnt (max s n_a) f_a := by
      have := cnt_split f_a (show s ≤ max s n_a by omega); omega
    have h5 := cnt_more (n := n_a) (m := max s n_a) (by omega) hlt_a
    have h6 := cnt_le n_a f_a
    omega
  rw [decide_eq_true (by omega)]
  simp only [BIf_true]
  obtain ⟨ii, hi1, hi2, hi3, hi4⟩ := inf22
  have hbn' := bn.lt
  refine append1 (P := Go.Proofs.Tryd.prog) und23 hi1 hi2 hi3 rfl (by omega) own rfl rfl (by omega) fun q' d' w6 f6 own6 hp6 hs6 => ?_
  have bn6 := bn.fr f6 fun h => by have := hbl _ h; omega
  have hbl6 : ∀ x, bl q' x → n14 < x := fun x hx => by
    rcases hp6 x hx with h | h
    · exact hbl x h
    · omega
  have hs6' : BV w6 w3.heap.size w4.heap.size n_a p_a f_a := ⟨hs_a.sees.frS f6 fun x hx hx2 => by have h1 := hs_a.bd x hx; have h2 := hbl x hx2; omega, hs_a.lt, hs_a.bd⟩
  have hT6 := hT'.fr f6 fun h => by have := hbl _ h; omega
  have fr6 := fr.trans f6 fun x hx => .inr (by have := hbl x hx; omega)
  simp only [add_mk, Nat.zero_add, Nat.add_zero]
  refine load_int bn6 rfl ?_
  refine load_slice bn6 rfl ?_
  have e1 : addI .u64 (m : Int) 1 = ((m + 1 : Nat) : Int) := addI_nat (y := 1) (by omega)
  rw [e1]
  have hLs : L (m + 1) f_a = L s f_a ++ [m] := by
    rw [L_succ, h2, if_pos rfl]
    obtain ⟨d, hd⟩ := Nat.exists_eq_add_of_le h1
    rw [hd, L_none fun j g1 g2 => h3 j g1 (by omega)]
  refine F10_call (C10 (by omega) hs6' hT6 (by omega) fun m2 r2 w7 hr2 f7 => back_two ?_)
  have hl2 : (L (m + 1) f_a).length = (L s f_a).length + 1 := by rw [hLs]; simp
  refine ⟨⟨(by trivial), m + 1, m2, rfl, by omega, hr2, by rw [hl2], ?_, hbl6, hs6'.fr0 f7, bn6.fr f7 id, fr6.trans f7 fun _ h => h.elim⟩, ?_⟩
  · rw [hLs, us_append]; exact own6.fr f7 fun _ _ h => h
  · rcases hr2 with ⟨rfl, g1, _, _⟩ | ⟨rfl, _, _⟩
    · simp only [if_true, Int.toNat_natCast]; omega
    · simp only [if_true, Int.toNat_natCast]
      simp; omega
end Go.Proofs.YtopdlfecfgimpaaDoor.E
