/-
  The law FnBSDeepSums, walked. The straight parts were printed by this session's own program aw.py.
-/
import Derived.Test.YtopdlfecfgimpaaBV2
import Derived.Test.YtopdlfecfgimpaaSuper
namespace Go.Proofs.Ytopdlfecfgimpaa.E
open Go
set_option maxHeartbeats 4000000
set_option linter.unusedSimpArgs false
set_option linter.unusedVariables false
set_option maxRecDepth 100000

theorem cnt_or_and (n : Nat) (f g : Nat → Bool) : cnt n f + cnt n g = cnt n (fun j => f j || g j) + cnt n (fun j => f j && g j) := by
  induction n with
  | zero => rfl
  | succ n ih => simp only [cnt]; cases f n <;> cases g n <;> simp <;> omega
theorem cnt_xor (n : Nat) (f g : Nat → Bool) : cnt n (fun j => f j ^^ g j) = cnt n (fun j => f j && !g j) + cnt n (fun j => g j && !f j) := by
  induction n with
  | zero => rfl
  | succ n ih => simp only [cnt]; cases f n <;> cases g n <;> simp <;> omega
theorem cnt_some {n i : Nat} {f : Nat → Bool} (hi : i < n) (h : f i = true) : 0 < cnt n f := by
  rcases Nat.eq_zero_or_pos (cnt n f) with h0 | h0
  · rw [cnt_eq_zero] at h0; rw [h0 i hi] at h; cases h
  · exact h0

theorem F7_J1_spec {n_a c_a lo_a hi_a : Nat} {p_a : Option Addr} {f_a : Nat → Bool} {n_b c_b lo_b hi_b : Nat} {p_b : Option Addr} {f_b : Nat → Bool} {na : Nat} {nb : Nat} {i : Nat} {k : Value → W} {w : World} (hs_a : BV w lo_a hi_a n_a p_a f_a) (hs_b : BV w lo_b hi_b n_b p_b f_b) (bna : Blk w na 25 [.int .u64 n_a, .slice p_a (L n_a f_a).length c_a]) (bnb : Blk w nb 25 [.int .u64 n_b, .slice p_b (L n_b f_b).length c_b]) (hz_a : hi_a ≤ w.heap.size) (hz_b : hi_b ≤ w.heap.size) (hna : n_a ≤ 400) (hnb : n_b ≤ 400) (hi : f_a i = true)
    (hk : ∀ w', Fr (fun _ => False) w w' → k (.bool true) w') : F7_J1 k ⟨na, 0, none⟩ ⟨nb, 0, none⟩ w := by
  unfold F7_J1
  simp only [add_mk, Nat.zero_add, Nat.add_zero]
  have b1 := cnt_le n_a f_a
  have b2 := cnt_le n_b f_b
  have b3 := cnt_le (max n_a n_b) (fun j => f_a j || f_b j)
  have b4 := cnt_le (min n_a n_b) (fun j => f_a j && f_b j)
  have b5 := cnt_le n_a (fun j => f_a j && !f_b j)
  have b6 := cnt_le n_b (fun j => f_b j && !f_a j)
  have m1 : cnt (max n_a n_b) f_a = cnt n_a f_a := cnt_more (by omega) hs_a.lt
  have m2 : cnt (max n_a n_b) f_b = cnt n_b f_b := cnt_more (by omega) hs_b.lt
  have m3 : cnt (max n_a n_b) (fun j => f_a j && f_b j) = cnt (min n_a n_b) (fun j => f_a j && f_b j) := cnt_more (by omega) fun j hj => by
    have hj := (Bool.and_eq_true _ _).mp hj
    have h1 := hs_a.lt j hj.1
    have h2 := hs_b.lt j hj.2
    omega
  have m4 : cnt (max n_a n_b) (fun j => f_a j && !f_b j) = cnt n_a (fun j => f_a j && !f_b j) := cnt_more (by omega) fun j hj => hs_a.lt j ((Bool.and_eq_true _ _).mp hj).1
  have m5 : cnt (max n_a n_b) (fun j => f_b j && !f_a j) = cnt n_b (fun j => f_b j && !f_a j) := cnt_more (by omega) fun j hj => hs_b.lt j ((Bool.and_eq_true _ _).mp hj).1
  have s1 := cnt_or_and (max n_a n_b) f_a f_b
  have s2 := cnt_xor (max n_a n_b) f_a f_b
  have p1 : 0 < cnt (max n_a n_b) (fun j => f_a j || f_b j) := cnt_some (i := i) (by have := hs_a.lt i hi; omega) (by rw [hi]; rfl)
  rw [m1, m2, m3] at s1
  rw [m4, m5] at s2
  have lna := bna.lt
  have lnb := bnb.lt
  refine load_int bna rfl ?_
  refine load_slice bna rfl ?_
  refine load_int bnb rfl ?_
  refine load_slice bnb rfl ?_
  refine F29_call (C29  (by omega) hs_a (by omega) hs_b fun w1 f1 => back_int ?_)
  have fr := f1
  have z1 := f1.size
  replace hs_a := hs_a.fr0 f1
  replace hs_b := hs_b.fr0 f1
  replace bna := bna.fr f1 id
  replace bnb := bnb.fr f1 id
  refine drw_intro fun w2 f2 z2 => ?_
  replace fr := fr.trans f2 fun _ h => h.elim
  replace hs_a := hs_a.fr0 f2
  replace hs_b := hs_b.fr0 f2
  replace bna := bna.fr f2 id
  replace bnb := bnb.fr f2 id
  rw [decide_eq_true (by omega), BIf_true]
  refine load_int bna rfl ?_
  refine load_slice bna rfl ?_
  refine load_int bnb rfl ?_
  refine load_slice bnb rfl ?_
  refine load_int bna rfl ?_
  refine load_slice bna rfl ?_
  refine load_int bnb rfl ?_
  refine load_slice bnb rfl ?_
  refine F30_call (C30  (by omega) hs_a fun w3 f3 => back_int ?_)
  replace fr := fr.trans f3 fun _ h => h.elim
  have z3 := f3.size
  replace hs_a := hs_a.fr0 f3
  replace hs_b := hs_b.fr0 f3
  replace bna := bna.fr f3 id
  replace bnb := bnb.fr f3 id
  refine Chk1_iff.2 ⟨by rw [bnb.cell]; rfl, ?_⟩
  refine Chk1_iff.2 ⟨by rw [bnb.cell]; rfl, ?_⟩
  refine Chk1_iff.2 ⟨by rw [bna.cell]; rfl, ?_⟩
  refine Chk1_iff.2 ⟨by rw [bna.cell]; rfl, ?_⟩
  refine Chk1_iff.2 ⟨by rw [bnb.cell]; rfl, ?_⟩
  refine Chk1_iff.2 ⟨by rw [bnb.cell]; rfl, ?_⟩
  refine F30_call (C30  (by omega) hs_b fun w4 f4 => back_int ?_)
  replace fr := fr.trans f4 fun _ h => h.elim
  have z4 := f4.size
  replace hs_a := hs_a.fr0 f4
  replace hs_b := hs_b.fr0 f4
  replace bna := bna.fr f4 id
  replace bnb := bnb.fr f4 id
  refine Chk1_iff.2 ⟨by rw [bnb.cell]; rfl, ?_⟩
  refine Chk1_iff.2 ⟨by rw [bnb.cell]; rfl, ?_⟩
  refine Chk1_iff.2 ⟨by rw [bna.cell]; rfl, ?_⟩
  refine Chk1_iff.2 ⟨by rw [bna.cell]; rfl, ?_⟩
  refine Chk1_iff.2 ⟨by rw [bna.cell]; rfl, ?_⟩
  refine Chk1_iff.2 ⟨by rw [bna.cell]; rfl, ?_⟩
  refine F31_call (C31  (by omega) hs_a (by omega) hs_b fun w5 f5 => back_int ?_)
  replace fr := fr.trans f5 fun _ h => h.elim
  have z5 := f5.size
  replace hs_a := hs_a.fr0 f5
  replace hs_b := hs_b.fr0 f5
  replace bna := bna.fr f5 id
  replace bnb := bnb.fr f5 id
  refine Chk1_iff.2 ⟨by rw [bnb.cell]; rfl, ?_⟩
  refine Chk1_iff.2 ⟨by rw [bnb.cell]; rfl, ?_⟩
  refine Chk1_iff.2 ⟨by rw [bna.cell]; rfl, ?_⟩
  refine Chk1_iff.2 ⟨by rw [bna.cell]; rfl, ?_⟩
  rw [addI_nat (by omega), addI_nat (by omega), s1, beq_self_eq_true, BIf_true]
  refine load_int bna rfl ?_
  refine load_slice bna rfl ?_
  refine load_int bnb rfl ?_
  refine load_slice bnb rfl ?_
  refine load_int bna rfl ?_
  refine load_slice bna rfl ?_
  refine load_int bnb rfl ?_
  refine load_slice bnb rfl ?_
  refine load_int bnb rfl ?_
  refine load_slice bnb rfl ?_
  refine load_int bna rfl ?_
  refine load_slice bna rfl ?_
  refine F32_call (C32  (by omega) hs_a (by omega) hs_b fun w6 f6 => back_int ?_)
  replace fr := fr.trans f6 fun _ h => h.elim
  have z6 := f6.size
  replace hs_a := hs_a.fr0 f6
  replace hs_b := hs_b.fr0 f6
  replace bna := bna.fr f6 id
  replace bnb := bnb.fr f6 id
  refine Chk1_iff.2 ⟨by rw [bna.cell]; rfl, ?_⟩
  refine Chk1_iff.2 ⟨by rw [bna.cell]; rfl, ?_⟩
  refine Chk1_iff.2 ⟨by rw [bnb.cell]; rfl, ?_⟩
  refine Chk1_iff.2 ⟨by rw [bnb.cell]; rfl, ?_⟩
  refine Chk1_iff.2 ⟨by rw [bnb.cell]; rfl, ?_⟩
  refine Chk1_iff.2 ⟨by rw [bnb.cell]; rfl, ?_⟩
  refine Chk1_iff.2 ⟨by rw [bna.cell]; rfl, ?_⟩
  refine Chk1_iff.2 ⟨by rw [bna.cell]; rfl, ?_⟩
  refine Chk1_iff.2 ⟨by rw [bnb.cell]; rfl, ?_⟩
  refine Chk1_iff.2 ⟨by rw [bnb.cell]; rfl, ?_⟩
  refine Chk1_iff.2 ⟨by rw [bna.cell]; rfl, ?_⟩
  refine Chk1_iff.2 ⟨by rw [bna.cell]; rfl, ?_⟩
  refine Chk1_iff.2 ⟨by rw [bnb.cell]; rfl, ?_⟩
  refine Chk1_iff.2 ⟨by rw [bnb.cell]; rfl, ?_⟩
  refine Chk1_iff.2 ⟨by rw [bna.cell]; rfl, ?_⟩
  refine Chk1_iff.2 ⟨by rw [bna.cell]; rfl, ?_⟩
  refine F28_call (C28  (by omega) hs_a (by omega) hs_b fun w7 f7 => back_int ?_)
  replace fr := fr.trans f7 fun _ h => h.elim
  have z7 := f7.size
  replace hs_a := hs_a.fr0 f7
  replace hs_b := hs_b.fr0 f7
  replace bna := bna.fr f7 id
  replace bnb := bnb.fr f7 id
  refine Chk1_iff.2 ⟨by rw [bna.cell]; rfl, ?_⟩
  refine Chk1_iff.2 ⟨by rw [bna.cell]; rfl, ?_⟩
  refine Chk1_iff.2 ⟨by rw [bnb.cell]; rfl, ?_⟩
  refine Chk1_iff.2 ⟨by rw [bnb.cell]; rfl, ?_⟩
  refine Chk1_iff.2 ⟨by rw [bnb.cell]; rfl, ?_⟩
  refine Chk1_iff.2 ⟨by rw [bnb.cell]; rfl, ?_⟩
  refine Chk1_iff.2 ⟨by rw [bna.cell]; rfl, ?_⟩
  refine Chk1_iff.2 ⟨by rw [bna.cell]; rfl, ?_⟩
  refine Chk1_iff.2 ⟨by rw [bnb.cell]; rfl, ?_⟩
  refine Chk1_iff.2 ⟨by rw [bnb.cell]; rfl, ?_⟩
  refine Chk1_iff.2 ⟨by rw [bna.cell]; rfl, ?_⟩
  refine Chk1_iff.2 ⟨by rw [bna.cell]; rfl, ?_⟩
  refine Chk1_iff.2 ⟨by rw [bnb.cell]; rfl, ?_⟩
  refine Chk1_iff.2 ⟨by rw [bnb.cell]; rfl, ?_⟩
  refine Chk1_iff.2 ⟨by rw [bna.cell]; rfl, ?_⟩
  refine Chk1_iff.2 ⟨by rw [bna.cell]; rfl, ?_⟩
  refine F28_call (C28  (by omega) hs_b (by omega) hs_a fun w8 f8 => back_int ?_)
  replace fr := fr.trans f8 fun _ h => h.elim
  have z8 := f8.size
  replace hs_a := hs_a.fr0 f8
  replace hs_b := hs_b.fr0 f8
  replace bna := bna.fr f8 id
  replace bnb := bnb.fr f8 id
  refine Chk1_iff.2 ⟨by rw [bnb.cell]; rfl, ?_⟩
  refine Chk1_iff.2 ⟨by rw [bnb.cell]; rfl, ?_⟩
  refine Chk1_iff.2 ⟨by rw [bna.cell]; rfl, ?_⟩
  refine Chk1_iff.2 ⟨by rw [bna.cell]; rfl, ?_⟩
  refine Chk1_iff.2 ⟨by rw [bnb.cell]; rfl, ?_⟩
  refine Chk1_iff.2 ⟨by rw [bnb.cell]; rfl, ?_⟩
  refine Chk1_iff.2 ⟨by rw [bna.cell]; rfl, ?_⟩
  refine Chk1_iff.2 ⟨by rw [bna.cell]; rfl, ?_⟩
  refine Chk1_iff.2 ⟨by rw [bnb.cell]; rfl, ?_⟩
  refine Chk1_iff.2 ⟨by rw [bnb.cell]; rfl, ?_⟩
  refine Chk1_iff.2 ⟨by rw [bna.cell]; rfl, ?_⟩
  refine Chk1_iff.2 ⟨by rw [bna.cell]; rfl, ?_⟩
  refine Chk1_iff.2 ⟨by rw [bnb.cell]; rfl, ?_⟩
  refine Chk1_iff.2 ⟨by rw [bnb.cell]; rfl, ?_⟩
  refine Chk1_iff.2 ⟨by rw [bna.cell]; rfl, ?_⟩
  refine Chk1_iff.2 ⟨by rw [bna.cell]; rfl, ?_⟩
  refine bind_intro ?_
  rw [addI_nat (by omega), s2, beq_self_eq_true]
  exact hk _ fr

theorem F7_spec {x l c y m d a : Nat} {p q : Option Addr} {k : Value → W} {w : World} (hx : x < 18446744073709551616) (hr : Reads w p l) (hy : y < 18446744073709551616) (hq : Reads w q m) (ha : a < 65536)
    (hk : ∀ w', Fr (fun _ => False) w w' → k (.bool true) w') : F7 k x p l c y q m d a w := by
  unfold F7
  have ei : remI (IntKind.wrap .u64 (a : Int)) 400 = ((a % 400 : Nat) : Int) := by rw [wrap_u64 (by omega) (by omega), remI_eq (by omega)]; omega
  rw [ei]
  have hi : a % 400 < 400 := Nat.mod_lt _ (by decide)
  generalize a % 400 = i at hi
  refine new_intro fun n6 w1 e1 bn6 f1 z1 => ?_
  have fr := f1
  replace hr := hr.fr0 f1
  replace hq := hq.fr0 f1
  refine new_intro fun n7 w2 e2 bn7 f2 z2 => ?_
  replace fr := fr.trans f2 fun _ h => h.elim
  replace hr := hr.fr0 f2
  replace hq := hq.fr0 f2
  replace bn6 := bn6.fr f2 id
  refine load_int bn6 rfl ?_
  refine load_slice bn6 rfl ?_
  refine F12_call (F12_spec fun fit1 w3 f3 hfit1 => back_bool ?_)
  replace fr := fr.trans f3 fun _ h => h.elim
  have z3 := f3.size
  replace hr := hr.fr0 f3
  replace hq := hq.fr0 f3
  replace bn6 := bn6.fr f3 id
  replace bn7 := bn7.fr f3 id
  refine BIf_intro (fun hc => hk _ fr) (fun hc => ?_)
  have hl := hfit1 (by simpa using hc)
  refine load_int bn7 rfl ?_
  refine load_slice bn7 rfl ?_
  refine F12_call (F12_spec fun fit2 w4 f4 hfit2 => back_bool ?_)
  replace fr := fr.trans f4 fun _ h => h.elim
  have z4 := f4.size
  replace hr := hr.fr0 f4
  replace hq := hq.fr0 f4
  replace bn6 := bn6.fr f4 id
  replace bn7 := bn7.fr f4 id
  refine BIf_intro (fun hc => hk _ fr) (fun hc => ?_)
  have hm := hfit2 (by simpa using hc)
  refine drw_intro fun w5 f5 z5 => ?_
  replace fr := fr.trans f5 fun _ h => h.elim
  replace hr := hr.fr0 f5
  replace hq := hq.fr0 f5
  replace bn6 := bn6.fr f5 id
  replace bn7 := bn7.fr f5 id
  refine load_int bn6 rfl ?_
  refine load_slice bn6 rfl ?_
  refine ⟨by decide, ?_⟩
  refine load_int bn7 rfl ?_
  refine load_slice bn7 rfl ?_
  refine ⟨?_, ?_⟩
  · refine F13_call (C13 hx hr hl fun n_z f_z p_z c_z w6 hn_z hs_z f6 => back_bits ?_)
    replace fr := fr.trans f6 fun _ h => h.elim
    have z6 := f6.size
    replace hr := hr.fr0 f6
    replace hq := hq.fr0 f6
    replace bn6 := bn6.fr f6 id
    replace bn7 := bn7.fr f6 id
    refine Chk1_iff.2 ⟨by rw [bn7.cell]; rfl, ?_⟩
    refine Chk1_iff.2 ⟨by rw [bn7.cell]; rfl, ?_⟩
    refine ⟨?_, ?_⟩
    · refine F17_call (C17  (by omega) hs_z (by omega) fun p_a c_a w7 hs_a f7 => back_bits ?_)
      generalize en_a : (max n_z (i + 1)) = n_a at hs_a ⊢
      generalize ef_a : (fun j => f_z j || decide (j = i)) = f_a at hs_a ⊢
      replace fr := fr.trans f7 fun _ h => h.elim
      have z7 := f7.size
      replace hq := hq.fr0 f7
      replace hs_z := hs_z.fr0 f7
      replace bn6 := bn6.fr f7 id
      replace bn7 := bn7.fr f7 id
      refine Chk1_iff.2 ⟨by rw [bn7.cell]; rfl, ?_⟩
      refine Chk1_iff.2 ⟨by rw [bn7.cell]; rfl, ?_⟩
      refine Chk1_iff.2 ⟨by rw [bn6.cell]; rfl, ?_⟩
      refine Chk1_iff.2 ⟨by rw [bn6.cell]; rfl, ?_⟩
      refine ⟨?_, ?_⟩
      · refine F13_call (C13 hy hq hm fun n_b f_b p_b c_b w8 hn_b hs_b f8 => back_bits ?_)
        replace fr := fr.trans f8 fun _ h => h.elim
        have z8 := f8.size
        replace hq := hq.fr0 f8
        replace hs_z := hs_z.fr0 f8
        replace hs_a := hs_a.fr0 f8
        replace bn6 := bn6.fr f8 id
        replace bn7 := bn7.fr f8 id
        refine Chk1_iff.2 ⟨by rw [bn6.cell]; rfl, ?_⟩
        refine Chk1_iff.2 ⟨by rw [bn6.cell]; rfl, ?_⟩
        refine ⟨?_, ?_⟩
        · refine new_intro fun n24 w9 e9 bn24 f9 z9 => ?_
          replace fr := fr.trans f9 fun _ h => h.elim
          replace hs_z := hs_z.fr0 f9
          replace hs_a := hs_a.fr0 f9
          replace hs_b := hs_b.fr0 f9
          replace bn6 := bn6.fr f9 id
          replace bn7 := bn7.fr f9 id
          refine Chk1_iff.2 ⟨by rw [bn7.cell]; rfl, ?_⟩
          refine Chk1_iff.2 ⟨by rw [bn7.cell]; rfl, ?_⟩
          refine Chk1_iff.2 ⟨by rw [bn6.cell]; rfl, ?_⟩
          refine Chk1_iff.2 ⟨by rw [bn6.cell]; rfl, ?_⟩
          refine new_intro fun n25 w10 e10 bn25 f10 z10 => ?_
          replace fr := fr.trans f10 fun _ h => h.elim
          replace hs_z := hs_z.fr0 f10
          replace hs_a := hs_a.fr0 f10
          replace hs_b := hs_b.fr0 f10
          replace bn6 := bn6.fr f10 id
          replace bn7 := bn7.fr f10 id
          replace bn24 := bn24.fr f10 id
          refine Chk1_iff.2 ⟨by rw [bn7.cell]; rfl, ?_⟩
          refine Chk1_iff.2 ⟨by rw [bn7.cell]; rfl, ?_⟩
          refine Chk1_iff.2 ⟨by rw [bn6.cell]; rfl, ?_⟩
          refine Chk1_iff.2 ⟨by rw [bn6.cell]; rfl, ?_⟩
          refine store_intro bn24 (by simp) rfl fun w11 bn24 f11 z11 => ?_
          replace fr := fr.trans f11 fun x (e : x = n24) => .inr (by omega)
          replace hs_z := hs_z.st f11 (by omega)
          replace hs_a := hs_a.st f11 (by omega)
          replace hs_b := hs_b.st f11 (by omega)
          replace bn6 := bn6.fr f11 (show ¬ n6 = n24 by omega)
          replace bn7 := bn7.fr f11 (show ¬ n7 = n24 by omega)
          replace bn25 := bn25.fr f11 (show ¬ n25 = n24 by omega)
          refine store_intro bn24 (by simp) rfl fun w12 bn24 f12 z12 => ?_
          replace fr := fr.trans f12 fun x (e : x = n24) => .inr (by omega)
          replace hs_z := hs_z.st f12 (by omega)
          replace hs_a := hs_a.st f12 (by omega)
          replace hs_b := hs_b.st f12 (by omega)
          replace bn6 := bn6.fr f12 (show ¬ n6 = n24 by omega)
          replace bn7 := bn7.fr f12 (show ¬ n7 = n24 by omega)
          replace bn25 := bn25.fr f12 (show ¬ n25 = n24 by omega)
          refine Chk1_iff.2 ⟨by rw [bn7.cell]; rfl, ?_⟩
          refine Chk1_iff.2 ⟨by rw [bn7.cell]; rfl, ?_⟩
          refine store_intro bn25 (by simp) rfl fun w13 bn25 f13 z13 => ?_
          replace fr := fr.trans f13 fun x (e : x = n25) => .inr (by omega)
          replace hs_z := hs_z.st f13 (by omega)
          replace hs_a := hs_a.st f13 (by omega)
          replace hs_b := hs_b.st f13 (by omega)
          replace bn6 := bn6.fr f13 (show ¬ n6 = n25 by omega)
          replace bn7 := bn7.fr f13 (show ¬ n7 = n25 by omega)
          replace bn24 := bn24.fr f13 (show ¬ n24 = n25 by omega)
          refine store_intro bn25 (by simp) rfl fun w14 bn25 f14 z14 => ?_
          replace fr := fr.trans f14 fun x (e : x = n25) => .inr (by omega)
          replace hs_z := hs_z.st f14 (by omega)
          replace hs_a := hs_a.st f14 (by omega)
          replace hs_b := hs_b.st f14 (by omega)
          replace bn6 := bn6.fr f14 (show ¬ n6 = n25 by omega)
          replace bn7 := bn7.fr f14 (show ¬ n7 = n25 by omega)
          replace bn24 := bn24.fr f14 (show ¬ n24 = n25 by omega)
          exact F7_J1_spec (i := i) hs_a hs_b bn24 bn25 (by omega) (by omega) (by omega) (by omega) (by rw [← ef_a]; simp) fun w9 f9 => hk _ (fr.trans f9 fun _ h => h.elim)
        · refine new_intro fun n60 w9 e9 bn60 f9 z9 => ?_
          replace fr := fr.trans f9 fun _ h => h.elim
          replace hs_z := hs_z.fr0 f9
          replace hs_a := hs_a.fr0 f9
          replace hs_b := hs_b.fr0 f9
          replace bn6 := bn6.fr f9 id
          replace bn7 := bn7.fr f9 id
          refine Chk1_iff.2 ⟨by rw [bn7.cell]; rfl, ?_⟩
          refine Chk1_iff.2 ⟨by rw [bn7.cell]; rfl, ?_⟩
          refine Chk1_iff.2 ⟨by rw [bn6.cell]; rfl, ?_⟩
          refine Chk1_iff.2 ⟨by rw [bn6.cell]; rfl, ?_⟩
          refine new_intro fun n61 w10 e10 bn61 f10 z10 => ?_
          replace fr := fr.trans f10 fun _ h => h.elim
          replace hs_z := hs_z.fr0 f10
          replace hs_a := hs_a.fr0 f10
          replace hs_b := hs_b.fr0 f10
          replace bn6 := bn6.fr f10 id
          replace bn7 := bn7.fr f10 id
          replace bn60 := bn60.fr f10 id
          refine Chk1_iff.2 ⟨by rw [bn7.cell]; rfl, ?_⟩
          refine Chk1_iff.2 ⟨by rw [bn7.cell]; rfl, ?_⟩
          refine Chk1_iff.2 ⟨by rw [bn6.cell]; rfl, ?_⟩
          refine Chk1_iff.2 ⟨by rw [bn6.cell]; rfl, ?_⟩
          refine store_intro bn61 (by simp) rfl fun w11 bn61 f11 z11 => ?_
          replace fr := fr.trans f11 fun x (e : x = n61) => .inr (by omega)
          replace hs_z := hs_z.st f11 (by omega)
          replace hs_a := hs_a.st f11 (by omega)
          replace hs_b := hs_b.st f11 (by omega)
          replace bn6 := bn6.fr f11 (show ¬ n6 = n61 by omega)
          replace bn7 := bn7.fr f11 (show ¬ n7 = n61 by omega)
          replace bn60 := bn60.fr f11 (show ¬ n60 = n61 by omega)
          refine store_intro bn61 (by simp) rfl fun w12 bn61 f12 z12 => ?_
          replace fr := fr.trans f12 fun x (e : x = n61) => .inr (by omega)
          replace hs_z := hs_z.st f12 (by omega)
          replace hs_a := hs_a.st f12 (by omega)
          replace hs_b := hs_b.st f12 (by omega)
          replace bn6 := bn6.fr f12 (show ¬ n6 = n61 by omega)
          replace bn7 := bn7.fr f12 (show ¬ n7 = n61 by omega)
          replace bn60 := bn60.fr f12 (show ¬ n60 = n61 by omega)
          refine Chk1_iff.2 ⟨by rw [bn7.cell]; rfl, ?_⟩
          refine Chk1_iff.2 ⟨by rw [bn7.cell]; rfl, ?_⟩
          refine store_intro bn60 (by simp) rfl fun w13 bn60 f13 z13 => ?_
          replace fr := fr.trans f13 fun x (e : x = n60) => .inr (by omega)
          replace hs_z := hs_z.st f13 (by omega)
          replace hs_a := hs_a.st f13 (by omega)
          replace hs_b := hs_b.st f13 (by omega)
          replace bn6 := bn6.fr f13 (show ¬ n6 = n60 by omega)
          replace bn7 := bn7.fr f13 (show ¬ n7 = n60 by omega)
          replace bn61 := bn61.fr f13 (show ¬ n61 = n60 by omega)
          refine store_intro bn60 (by simp) rfl fun w14 bn60 f14 z14 => ?_
          replace fr := fr.trans f14 fun x (e : x = n60) => .inr (by omega)
          replace hs_z := hs_z.st f14 (by omega)
          replace hs_a := hs_a.st f14 (by omega)
          replace hs_b := hs_b.st f14 (by omega)
          replace bn6 := bn6.fr f14 (show ¬ n6 = n60 by omega)
          replace bn7 := bn7.fr f14 (show ¬ n7 = n60 by omega)
          replace bn61 := bn61.fr f14 (show ¬ n61 = n60 by omega)
          exact F7_J1_spec (i := i) hs_a hs_b bn61 bn60 (by omega) (by omega) (by omega) (by omega) (by rw [← ef_a]; simp) fun w9 f9 => hk _ (fr.trans f9 fun _ h => h.elim)
      · refine ⟨?_, ?_⟩
        · refine new_intro fun n62 w8 e8 bn62 f8 z8 => ?_
          replace fr := fr.trans f8 fun _ h => h.elim
          replace hq := hq.fr0 f8
          replace hs_z := hs_z.fr0 f8
          replace hs_a := hs_a.fr0 f8
          replace bn6 := bn6.fr f8 id
          replace bn7 := bn7.fr f8 id
          refine Chk1_iff.2 ⟨by rw [bn7.cell]; rfl, ?_⟩
          refine Chk1_iff.2 ⟨by rw [bn7.cell]; rfl, ?_⟩
          refine Chk1_iff.2 ⟨by rw [bn6.cell]; rfl, ?_⟩
          refine Chk1_iff.2 ⟨by rw [bn6.cell]; rfl, ?_⟩
          refine ⟨?_, ?_⟩
          · refine F13_call (C13 hy hq hm fun n_b f_b p_b c_b w9 hn_b hs_b f9 => back_bits ?_)
            replace fr := fr.trans f9 fun _ h => h.elim
            have z9 := f9.size
            replace hq := hq.fr0 f9
            replace hs_z := hs_z.fr0 f9
            replace hs_a := hs_a.fr0 f9
            replace bn6 := bn6.fr f9 id
            replace bn7 := bn7.fr f9 id
            replace bn62 := bn62.fr f9 id
            refine Chk1_iff.2 ⟨by rw [bn6.cell]; rfl, ?_⟩
            refine Chk1_iff.2 ⟨by rw [bn6.cell]; rfl, ?_⟩
            refine new_intro fun n65 w10 e10 bn65 f10 z10 => ?_
            replace fr := fr.trans f10 fun _ h => h.elim
            replace hs_z := hs_z.fr0 f10
            replace hs_a := hs_a.fr0 f10
            replace hs_b := hs_b.fr0 f10
            replace bn6 := bn6.fr f10 id
            replace bn7 := bn7.fr f10 id
            replace bn62 := bn62.fr f10 id
            refine Chk1_iff.2 ⟨by rw [bn7.cell]; rfl, ?_⟩
            refine Chk1_iff.2 ⟨by rw [bn7.cell]; rfl, ?_⟩
            refine Chk1_iff.2 ⟨by rw [bn6.cell]; rfl, ?_⟩
            refine Chk1_iff.2 ⟨by rw [bn6.cell]; rfl, ?_⟩
            refine store_intro bn62 (by simp) rfl fun w11 bn62 f11 z11 => ?_
            replace fr := fr.trans f11 fun x (e : x = n62) => .inr (by omega)
            replace hs_z := hs_z.st f11 (by omega)
            replace hs_a := hs_a.st f11 (by omega)
            replace hs_b := hs_b.st f11 (by omega)
            replace bn6 := bn6.fr f11 (show ¬ n6 = n62 by omega)
            replace bn7 := bn7.fr f11 (show ¬ n7 = n62 by omega)
            replace bn65 := bn65.fr f11 (show ¬ n65 = n62 by omega)
            refine store_intro bn62 (by simp) rfl fun w12 bn62 f12 z12 => ?_
            replace fr := fr.trans f12 fun x (e : x = n62) => .inr (by omega)
            replace hs_z := hs_z.st f12 (by omega)
            replace hs_a := hs_a.st f12 (by omega)
            replace hs_b := hs_b.st f12 (by omega)
            replace bn6 := bn6.fr f12 (show ¬ n6 = n62 by omega)
            replace bn7 := bn7.fr f12 (show ¬ n7 = n62 by omega)
            replace bn65 := bn65.fr f12 (show ¬ n65 = n62 by omega)
            refine Chk1_iff.2 ⟨by rw [bn7.cell]; rfl, ?_⟩
            refine Chk1_iff.2 ⟨by rw [bn7.cell]; rfl, ?_⟩
            refine store_intro bn65 (by simp) rfl fun w13 bn65 f13 z13 => ?_
            replace fr := fr.trans f13 fun x (e : x = n65) => .inr (by omega)
            replace hs_z := hs_z.st f13 (by omega)
            replace hs_a := hs_a.st f13 (by omega)
            replace hs_b := hs_b.st f13 (by omega)
            replace bn6 := bn6.fr f13 (show ¬ n6 = n65 by omega)
            replace bn7 := bn7.fr f13 (show ¬ n7 = n65 by omega)
            replace bn62 := bn62.fr f13 (show ¬ n62 = n65 by omega)
            refine store_intro bn65 (by simp) rfl fun w14 bn65 f14 z14 => ?_
            replace fr := fr.trans f14 fun x (e : x = n65) => .inr (by omega)
            replace hs_z := hs_z.st f14 (by omega)
            replace hs_a := hs_a.st f14 (by omega)
            replace hs_b := hs_b.st f14 (by omega)
            replace bn6 := bn6.fr f14 (show ¬ n6 = n65 by omega)
            replace bn7 := bn7.fr f14 (show ¬ n7 = n65 by omega)
            replace bn62 := bn62.fr f14 (show ¬ n62 = n65 by omega)
            exact F7_J1_spec (i := i) hs_a hs_b bn62 bn65 (by omega) (by omega) (by omega) (by omega) (by rw [← ef_a]; simp) fun w9 f9 => hk _ (fr.trans f9 fun _ h => h.elim)
          · refine new_intro fun n66 w9 e9 bn66 f9 z9 => ?_
            replace fr := fr.trans f9 fun _ h => h.elim
            replace hq := hq.fr0 f9
            replace hs_z := hs_z.fr0 f9
            replace hs_a := hs_a.fr0 f9
            replace bn6 := bn6.fr f9 id
            replace bn7 := bn7.fr f9 id
            replace bn62 := bn62.fr f9 id
            refine Chk1_iff.2 ⟨by rw [bn7.cell]; rfl, ?_⟩
            refine Chk1_iff.2 ⟨by rw [bn7.cell]; rfl, ?_⟩
            refine Chk1_iff.2 ⟨by rw [bn6.cell]; rfl, ?_⟩
            refine Chk1_iff.2 ⟨by rw [bn6.cell]; rfl, ?_⟩
            refine F13_call (C13 hy hq hm fun n_b f_b p_b c_b w10 hn_b hs_b f10 => back_bits ?_)
            replace fr := fr.trans f10 fun _ h => h.elim
            have z10 := f10.size
            replace hq := hq.fr0 f10
            replace hs_z := hs_z.fr0 f10
            replace hs_a := hs_a.fr0 f10
            replace bn6 := bn6.fr f10 id
            replace bn7 := bn7.fr f10 id
            replace bn62 := bn62.fr f10 id
            replace bn66 := bn66.fr f10 id
            refine Chk1_iff.2 ⟨by rw [bn6.cell]; rfl, ?_⟩
            refine Chk1_iff.2 ⟨by rw [bn6.cell]; rfl, ?_⟩
            refine store_intro bn62 (by simp) rfl fun w11 bn62 f11 z11 => ?_
            replace fr := fr.trans f11 fun x (e : x = n62) => .inr (by omega)
            replace hs_z := hs_z.st f11 (by omega)
            replace hs_a := hs_a.st f11 (by omega)
            replace hs_b := hs_b.st f11 (by omega)
            replace bn6 := bn6.fr f11 (show ¬ n6 = n62 by omega)
            replace bn7 := bn7.fr f11 (show ¬ n7 = n62 by omega)
            replace bn66 := bn66.fr f11 (show ¬ n66 = n62 by omega)
            refine store_intro bn62 (by simp) rfl fun w12 bn62 f12 z12 => ?_
            replace fr := fr.trans f12 fun x (e : x = n62) => .inr (by omega)
            replace hs_z := hs_z.st f12 (by omega)
            replace hs_a := hs_a.st f12 (by omega)
            replace hs_b := hs_b.st f12 (by omega)
            replace bn6 := bn6.fr f12 (show ¬ n6 = n62 by omega)
            replace bn7 := bn7.fr f12 (show ¬ n7 = n62 by omega)
            replace bn66 := bn66.fr f12 (show ¬ n66 = n62 by omega)
            refine Chk1_iff.2 ⟨by rw [bn7.cell]; rfl, ?_⟩
            refine Chk1_iff.2 ⟨by rw [bn7.cell]; rfl, ?_⟩
            refine store_intro bn66 (by simp) rfl fun w13 bn66 f13 z13 => ?_
            replace fr := fr.trans f13 fun x (e : x = n66) => .inr (by omega)
            replace hs_z := hs_z.st f13 (by omega)
            replace hs_a := hs_a.st f13 (by omega)
            replace hs_b := hs_b.st f13 (by omega)
            replace bn6 := bn6.fr f13 (show ¬ n6 = n66 by omega)
            replace bn7 := bn7.fr f13 (show ¬ n7 = n66 by omega)
            replace bn62 := bn62.fr f13 (show ¬ n62 = n66 by omega)
            refine store_intro bn66 (by simp) rfl fun w14 bn66 f14 z14 => ?_
            replace fr := fr.trans f14 fun x (e : x = n66) => .inr (by omega)
            replace hs_z := hs_z.st f14 (by omega)
            replace hs_a := hs_a.st f14 (by omega)
            replace hs_b := hs_b.st f14 (by omega)
            replace bn6 := bn6.fr f14 (show ¬ n6 = n66 by omega)
            replace bn7 := bn7.fr f14 (show ¬ n7 = n66 by omega)
            replace bn62 := bn62.fr f14 (show ¬ n62 = n66 by omega)
            exact F7_J1_spec (i := i) hs_a hs_b bn62 bn66 (by omega) (by omega) (by omega) (by omega) (by rw [← ef_a]; simp) fun w9 f9 => hk _ (fr.trans f9 fun _ h => h.elim)
        · refine new_intro fun n69 w8 e8 bn69 f8 z8 => ?_
          replace fr := fr.trans f8 fun _ h => h.elim
          replace hq := hq.fr0 f8
          replace hs_z := hs_z.fr0 f8
          replace hs_a := hs_a.fr0 f8
          replace bn6 := bn6.fr f8 id
          replace bn7 := bn7.fr f8 id
          refine Chk1_iff.2 ⟨by rw [bn7.cell]; rfl, ?_⟩
          refine Chk1_iff.2 ⟨by rw [bn7.cell]; rfl, ?_⟩
          refine Chk1_iff.2 ⟨by rw [bn6.cell]; rfl, ?_⟩
          refine Chk1_iff.2 ⟨by rw [bn6.cell]; rfl, ?_⟩
          refine ⟨?_, ?_⟩
          · refine F13_call (C13 hy hq hm fun n_b f_b p_b c_b w9 hn_b hs_b f9 => back_bits ?_)
            replace fr := fr.trans f9 fun _ h => h.elim
            have z9 := f9.size
            replace hq := hq.fr0 f9
            replace hs_z := hs_z.fr0 f9
            replace hs_a := hs_a.fr0 f9
            replace bn6 := bn6.fr f9 id
            replace bn7 := bn7.fr f9 id
            replace bn69 := bn69.fr f9 id
            refine Chk1_iff.2 ⟨by rw [bn6.cell]; rfl, ?_⟩
            refine Chk1_iff.2 ⟨by rw [bn6.cell]; rfl, ?_⟩
            refine new_intro fun n72 w10 e10 bn72 f10 z10 => ?_
            replace fr := fr.trans f10 fun _ h => h.elim
            replace hs_z := hs_z.fr0 f10
            replace hs_a := hs_a.fr0 f10
            replace hs_b := hs_b.fr0 f10
            replace bn6 := bn6.fr f10 id
            replace bn7 := bn7.fr f10 id
            replace bn69 := bn69.fr f10 id
            refine Chk1_iff.2 ⟨by rw [bn7.cell]; rfl, ?_⟩
            refine Chk1_iff.2 ⟨by rw [bn7.cell]; rfl, ?_⟩
            refine Chk1_iff.2 ⟨by rw [bn6.cell]; rfl, ?_⟩
            refine Chk1_iff.2 ⟨by rw [bn6.cell]; rfl, ?_⟩
            refine store_intro bn72 (by simp) rfl fun w11 bn72 f11 z11 => ?_
            replace fr := fr.trans f11 fun x (e : x = n72) => .inr (by omega)
            replace hs_z := hs_z.st f11 (by omega)
            replace hs_a := hs_a.st f11 (by omega)
            replace hs_b := hs_b.st f11 (by omega)
            replace bn6 := bn6.fr f11 (show ¬ n6 = n72 by omega)
            replace bn7 := bn7.fr f11 (show ¬ n7 = n72 by omega)
            replace bn69 := bn69.fr f11 (show ¬ n69 = n72 by omega)
            refine store_intro bn72 (by simp) rfl fun w12 bn72 f12 z12 => ?_
            replace fr := fr.trans f12 fun x (e : x = n72) => .inr (by omega)
            replace hs_z := hs_z.st f12 (by omega)
            replace hs_a := hs_a.st f12 (by omega)
            replace hs_b := hs_b.st f12 (by omega)
            replace bn6 := bn6.fr f12 (show ¬ n6 = n72 by omega)
            replace bn7 := bn7.fr f12 (show ¬ n7 = n72 by omega)
            replace bn69 := bn69.fr f12 (show ¬ n69 = n72 by omega)
            refine Chk1_iff.2 ⟨by rw [bn7.cell]; rfl, ?_⟩
            refine Chk1_iff.2 ⟨by rw [bn7.cell]; rfl, ?_⟩
            refine store_intro bn69 (by simp) rfl fun w13 bn69 f13 z13 => ?_
            replace fr := fr.trans f13 fun x (e : x = n69) => .inr (by omega)
            replace hs_z := hs_z.st f13 (by omega)
            replace hs_a := hs_a.st f13 (by omega)
            replace hs_b := hs_b.st f13 (by omega)
            replace bn6 := bn6.fr f13 (show ¬ n6 = n69 by omega)
            replace bn7 := bn7.fr f13 (show ¬ n7 = n69 by omega)
            replace bn72 := bn72.fr f13 (show ¬ n72 = n69 by omega)
            refine store_intro bn69 (by simp) rfl fun w14 bn69 f14 z14 => ?_
            replace fr := fr.trans f14 fun x (e : x = n69) => .inr (by omega)
            replace hs_z := hs_z.st f14 (by omega)
            replace hs_a := hs_a.st f14 (by omega)
            replace hs_b := hs_b.st f14 (by omega)
            replace bn6 := bn6.fr f14 (show ¬ n6 = n69 by omega)
            replace bn7 := bn7.fr f14 (show ¬ n7 = n69 by omega)
            replace bn72 := bn72.fr f14 (show ¬ n72 = n69 by omega)
            exact F7_J1_spec (i := i) hs_a hs_b bn72 bn69 (by omega) (by omega) (by omega) (by omega) (by rw [← ef_a]; simp) fun w9 f9 => hk _ (fr.trans f9 fun _ h => h.elim)
          · refine new_intro fun n73 w9 e9 bn73 f9 z9 => ?_
            replace fr := fr.trans f9 fun _ h => h.elim
            replace hq := hq.fr0 f9
            replace hs_z := hs_z.fr0 f9
            replace hs_a := hs_a.fr0 f9
            replace bn6 := bn6.fr f9 id
            replace bn7 := bn7.fr f9 id
            replace bn69 := bn69.fr f9 id
            refine Chk1_iff.2 ⟨by rw [bn7.cell]; rfl, ?_⟩
            refine Chk1_iff.2 ⟨by rw [bn7.cell]; rfl, ?_⟩
            refine Chk1_iff.2 ⟨by rw [bn6.cell]; rfl, ?_⟩
            refine Chk1_iff.2 ⟨by rw [bn6.cell]; rfl, ?_⟩
            refine F13_call (C13 hy hq hm fun n_b f_b p_b c_b w10 hn_b hs_b f10 => back_bits ?_)
            replace fr := fr.trans f10 fun _ h => h.elim
            have z10 := f10.size
            replace hq := hq.fr0 f10
            replace hs_z := hs_z.fr0 f10
            replace hs_a := hs_a.fr0 f10
            replace bn6 := bn6.fr f10 id
            replace bn7 := bn7.fr f10 id
            replace bn69 := bn69.fr f10 id
            replace bn73 := bn73.fr f10 id
            refine Chk1_iff.2 ⟨by rw [bn6.cell]; rfl, ?_⟩
            refine Chk1_iff.2 ⟨by rw [bn6.cell]; rfl, ?_⟩
            refine store_intro bn73 (by simp) rfl fun w11 bn73 f11 z11 => ?_
            replace fr := fr.trans f11 fun x (e : x = n73) => .inr (by omega)
            replace hs_z := hs_z.st f11 (by omega)
            replace hs_a := hs_a.st f11 (by omega)
            replace hs_b := hs_b.st f11 (by omega)
            replace bn6 := bn6.fr f11 (show ¬ n6 = n73 by omega)
            replace bn7 := bn7.fr f11 (show ¬ n7 = n73 by omega)
            replace bn69 := bn69.fr f11 (show ¬ n69 = n73 by omega)
            refine store_intro bn73 (by simp) rfl fun w12 bn73 f12 z12 => ?_
            replace fr := fr.trans f12 fun x (e : x = n73) => .inr (by omega)
            replace hs_z := hs_z.st f12 (by omega)
            replace hs_a := hs_a.st f12 (by omega)
            replace hs_b := hs_b.st f12 (by omega)
            replace bn6 := bn6.fr f12 (show ¬ n6 = n73 by omega)
            replace bn7 := bn7.fr f12 (show ¬ n7 = n73 by omega)
            replace bn69 := bn69.fr f12 (show ¬ n69 = n73 by omega)
            refine Chk1_iff.2 ⟨by rw [bn7.cell]; rfl, ?_⟩
            refine Chk1_iff.2 ⟨by rw [bn7.cell]; rfl, ?_⟩
            refine store_intro bn69 (by simp) rfl fun w13 bn69 f13 z13 => ?_
            replace fr := fr.trans f13 fun x (e : x = n69) => .inr (by omega)
            replace hs_z := hs_z.st f13 (by omega)
            replace hs_a := hs_a.st f13 (by omega)
            replace hs_b := hs_b.st f13 (by omega)
            replace bn6 := bn6.fr f13 (show ¬ n6 = n69 by omega)
            replace bn7 := bn7.fr f13 (show ¬ n7 = n69 by omega)
            replace bn73 := bn73.fr f13 (show ¬ n73 = n69 by omega)
            refine store_intro bn69 (by simp) rfl fun w14 bn69 f14 z14 => ?_
            replace fr := fr.trans f14 fun x (e : x = n69) => .inr (by omega)
            replace hs_z := hs_z.st f14 (by omega)
            replace hs_a := hs_a.st f14 (by omega)
            replace hs_b := hs_b.st f14 (by omega)
            replace bn6 := bn6.fr f14 (show ¬ n6 = n69 by omega)
            replace bn7 := bn7.fr f14 (show ¬ n7 = n69 by omega)
            replace bn73 := bn73.fr f14 (show ¬ n73 = n69 by omega)
            exact F7_J1_spec (i := i) hs_a hs_b bn73 bn69 (by omega) (by omega) (by omega) (by omega) (by rw [← ef_a]; simp) fun w9 f9 => hk _ (fr.trans f9 fun _ h => h.elim)
    · refine ⟨?_, ?_⟩
      · refine new_intro fun n76 w7 e7 bn76 f7 z7 => ?_
        replace fr := fr.trans f7 fun _ h => h.elim
        replace hq := hq.fr0 f7
        replace hs_z := hs_z.fr0 f7
        replace bn6 := bn6.fr f7 id
        replace bn7 := bn7.fr f7 id
        refine Chk1_iff.2 ⟨by rw [bn7.cell]; rfl, ?_⟩
        refine Chk1_iff.2 ⟨by rw [bn7.cell]; rfl, ?_⟩
        refine Chk1_iff.2 ⟨by rw [bn6.cell]; rfl, ?_⟩
        refine Chk1_iff.2 ⟨by rw [bn6.cell]; rfl, ?_⟩
        refine ⟨?_, ?_⟩
        · refine F17_call (C17  (by omega) hs_z (by omega) fun p_a c_a w8 hs_a f8 => back_bits ?_)
          generalize en_a : (max n_z (i + 1)) = n_a at hs_a ⊢
          generalize ef_a : (fun j => f_z j || decide (j = i)) = f_a at hs_a ⊢
          replace fr := fr.trans f8 fun _ h => h.elim
          have z8 := f8.size
          replace hq := hq.fr0 f8
          replace hs_z := hs_z.fr0 f8
          replace bn6 := bn6.fr f8 id
          replace bn7 := bn7.fr f8 id
          replace bn76 := bn76.fr f8 id
          refine Chk1_iff.2 ⟨by rw [bn7.cell]; rfl, ?_⟩
          refine Chk1_iff.2 ⟨by rw [bn7.cell]; rfl, ?_⟩
          refine Chk1_iff.2 ⟨by rw [bn6.cell]; rfl, ?_⟩
          refine Chk1_iff.2 ⟨by rw [bn6.cell]; rfl, ?_⟩
          refine ⟨?_, ?_⟩
          · refine F13_call (C13 hy hq hm fun n_b f_b p_b c_b w9 hn_b hs_b f9 => back_bits ?_)
            replace fr := fr.trans f9 fun _ h => h.elim
            have z9 := f9.size
            replace hq := hq.fr0 f9
            replace hs_z := hs_z.fr0 f9
            replace hs_a := hs_a.fr0 f9
            replace bn6 := bn6.fr f9 id
            replace bn7 := bn7.fr f9 id
            replace bn76 := bn76.fr f9 id
            refine Chk1_iff.2 ⟨by rw [bn6.cell]; rfl, ?_⟩
            refine Chk1_iff.2 ⟨by rw [bn6.cell]; rfl, ?_⟩
            refine new_intro fun n81 w10 e10 bn81 f10 z10 => ?_
            replace fr := fr.trans f10 fun _ h => h.elim
            replace hs_z := hs_z.fr0 f10
            replace hs_a := hs_a.fr0 f10
            replace hs_b := hs_b.fr0 f10
            replace bn6 := bn6.fr f10 id
            replace bn7 := bn7.fr f10 id
            replace bn76 := bn76.fr f10 id
            refine Chk1_iff.2 ⟨by rw [bn7.cell]; rfl, ?_⟩
            refine Chk1_iff.2 ⟨by rw [bn7.cell]; rfl, ?_⟩
            refine Chk1_iff.2 ⟨by rw [bn6.cell]; rfl, ?_⟩
            refine Chk1_iff.2 ⟨by rw [bn6.cell]; rfl, ?_⟩
            refine store_intro bn76 (by simp) rfl fun w11 bn76 f11 z11 => ?_
            replace fr := fr.trans f11 fun x (e : x = n76) => .inr (by omega)
            replace hs_z := hs_z.st f11 (by omega)
            replace hs_a := hs_a.st f11 (by omega)
            replace hs_b := hs_b.st f11 (by omega)
            replace bn6 := bn6.fr f11 (show ¬ n6 = n76 by omega)
            replace bn7 := bn7.fr f11 (show ¬ n7 = n76 by omega)
            replace bn81 := bn81.fr f11 (show ¬ n81 = n76 by omega)
            refine store_intro bn76 (by simp) rfl fun w12 bn76 f12 z12 => ?_
            replace fr := fr.trans f12 fun x (e : x = n76) => .inr (by omega)
            replace hs_z := hs_z.st f12 (by omega)
            replace hs_a := hs_a.st f12 (by omega)
            replace hs_b := hs_b.st f12 (by omega)
            replace bn6 := bn6.fr f12 (show ¬ n6 = n76 by omega)
            replace bn7 := bn7.fr f12 (show ¬ n7 = n76 by omega)
            replace bn81 := bn81.fr f12 (show ¬ n81 = n76 by omega)
            refine Chk1_iff.2 ⟨by rw [bn7.cell]; rfl, ?_⟩
            refine Chk1_iff.2 ⟨by rw [bn7.cell]; rfl, ?_⟩
            refine store_intro bn81 (by simp) rfl fun w13 bn81 f13 z13 => ?_
            replace fr := fr.trans f13 fun x (e : x = n81) => .inr (by omega)
            replace hs_z := hs_z.st f13 (by omega)
            replace hs_a := hs_a.st f13 (by omega)
            replace hs_b := hs_b.st f13 (by omega)
            replace bn6 := bn6.fr f13 (show ¬ n6 = n81 by omega)
            replace bn7 := bn7.fr f13 (show ¬ n7 = n81 by omega)
            replace bn76 := bn76.fr f13 (show ¬ n76 = n81 by omega)
            refine store_intro bn81 (by simp) rfl fun w14 bn81 f14 z14 => ?_
            replace fr := fr.trans f14 fun x (e : x = n81) => .inr (by omega)
            replace hs_z := hs_z.st f14 (by omega)
            replace hs_a := hs_a.st f14 (by omega)
            replace hs_b := hs_b.st f14 (by omega)
            replace bn6 := bn6.fr f14 (show ¬ n6 = n81 by omega)
            replace bn7 := bn7.fr f14 (show ¬ n7 = n81 by omega)
            replace bn76 := bn76.fr f14 (show ¬ n76 = n81 by omega)
            exact F7_J1_spec (i := i) hs_a hs_b bn76 bn81 (by omega) (by omega) (by omega) (by omega) (by rw [← ef_a]; simp) fun w9 f9 => hk _ (fr.trans f9 fun _ h => h.elim)
          · refine new_intro fun n82 w9 e9 bn82 f9 z9 => ?_
            replace fr := fr.trans f9 fun _ h => h.elim
            replace hq := hq.fr0 f9
            replace hs_z := hs_z.fr0 f9
            replace hs_a := hs_a.fr0 f9
            replace bn6 := bn6.fr f9 id
            replace bn7 := bn7.fr f9 id
            replace bn76 := bn76.fr f9 id
            refine Chk1_iff.2 ⟨by rw [bn7.cell]; rfl, ?_⟩
            refine Chk1_iff.2 ⟨by rw [bn7.cell]; rfl, ?_⟩
            refine Chk1_iff.2 ⟨by rw [bn6.cell]; rfl, ?_⟩
            refine Chk1_iff.2 ⟨by rw [bn6.cell]; rfl, ?_⟩
            refine F13_call (C13 hy hq hm fun n_b f_b p_b c_b w10 hn_b hs_b f10 => back_bits ?_)
            replace fr := fr.trans f10 fun _ h => h.elim
            have z10 := f10.size
            replace hq := hq.fr0 f10
            replace hs_z := hs_z.fr0 f10
            replace hs_a := hs_a.fr0 f10
            replace bn6 := bn6.fr f10 id
            replace bn7 := bn7.fr f10 id
            replace bn76 := bn76.fr f10 id
            replace bn82 := bn82.fr f10 id
            refine Chk1_iff.2 ⟨by rw [bn6.cell]; rfl, ?_⟩
            refine Chk1_iff.2 ⟨by rw [bn6.cell]; rfl, ?_⟩
            refine store_intro bn76 (by simp) rfl fun w11 bn76 f11 z11 => ?_
            replace fr := fr.trans f11 fun x (e : x = n76) => .inr (by omega)
            replace hs_z := hs_z.st f11 (by omega)
            replace hs_a := hs_a.st f11 (by omega)
            replace hs_b := hs_b.st f11 (by omega)
            replace bn6 := bn6.fr f11 (show ¬ n6 = n76 by omega)
            replace bn7 := bn7.fr f11 (show ¬ n7 = n76 by omega)
            replace bn82 := bn82.fr f11 (show ¬ n82 = n76 by omega)
            refine store_intro bn76 (by simp) rfl fun w12 bn76 f12 z12 => ?_
            replace fr := fr.trans f12 fun x (e : x = n76) => .inr (by omega)
            replace hs_z := hs_z.st f12 (by omega)
            replace hs_a := hs_a.st f12 (by omega)
            replace hs_b := hs_b.st f12 (by omega)
            replace bn6 := bn6.fr f12 (show ¬ n6 = n76 by omega)
            replace bn7 := bn7.fr f12 (show ¬ n7 = n76 by omega)
            replace bn82 := bn82.fr f12 (show ¬ n82 = n76 by omega)
            refine Chk1_iff.2 ⟨by rw [bn7.cell]; rfl, ?_⟩
            refine Chk1_iff.2 ⟨by rw [bn7.cell]; rfl, ?_⟩
            refine store_intro bn82 (by simp) rfl fun w13 bn82 f13 z13 => ?_
            replace fr := fr.trans f13 fun x (e : x = n82) => .inr (by omega)
            replace hs_z := hs_z.st f13 (by omega)
            replace hs_a := hs_a.st f13 (by omega)
            replace hs_b := hs_b.st f13 (by omega)
            replace bn6 := bn6.fr f13 (show ¬ n6 = n82 by omega)
            replace bn7 := bn7.fr f13 (show ¬ n7 = n82 by omega)
            replace bn76 := bn76.fr f13 (show ¬ n76 = n82 by omega)
            refine store_intro bn82 (by simp) rfl fun w14 bn82 f14 z14 => ?_
            replace fr := fr.trans f14 fun x (e : x = n82) => .inr (by omega)
            replace hs_z := hs_z.st f14 (by omega)
            replace hs_a := hs_a.st f14 (by omega)
            replace hs_b := hs_b.st f14 (by omega)
            replace bn6 := bn6.fr f14 (show ¬ n6 = n82 by omega)
            replace bn7 := bn7.fr f14 (show ¬ n7 = n82 by omega)
            replace bn76 := bn76.fr f14 (show ¬ n76 = n82 by omega)
            exact F7_J1_spec (i := i) hs_a hs_b bn76 bn82 (by omega) (by omega) (by omega) (by omega) (by rw [← ef_a]; simp) fun w9 f9 => hk _ (fr.trans f9 fun _ h => h.elim)
        · refine new_intro fun n85 w8 e8 bn85 f8 z8 => ?_
          replace fr := fr.trans f8 fun _ h => h.elim
          replace hq := hq.fr0 f8
          replace hs_z := hs_z.fr0 f8
          replace bn6 := bn6.fr f8 id
          replace bn7 := bn7.fr f8 id
          replace bn76 := bn76.fr f8 id
          refine Chk1_iff.2 ⟨by rw [bn7.cell]; rfl, ?_⟩
          refine Chk1_iff.2 ⟨by rw [bn7.cell]; rfl, ?_⟩
          refine Chk1_iff.2 ⟨by rw [bn6.cell]; rfl, ?_⟩
          refine Chk1_iff.2 ⟨by rw [bn6.cell]; rfl, ?_⟩
          refine F17_call (C17  (by omega) hs_z (by omega) fun p_a c_a w9 hs_a f9 => back_bits ?_)
          generalize en_a : (max n_z (i + 1)) = n_a at hs_a ⊢
          generalize ef_a : (fun j => f_z j || decide (j = i)) = f_a at hs_a ⊢
          replace fr := fr.trans f9 fun _ h => h.elim
          have z9 := f9.size
          replace hq := hq.fr0 f9
          replace hs_z := hs_z.fr0 f9
          replace bn6 := bn6.fr f9 id
          replace bn7 := bn7.fr f9 id
          replace bn76 := bn76.fr f9 id
          replace bn85 := bn85.fr f9 id
          refine Chk1_iff.2 ⟨by rw [bn7.cell]; rfl, ?_⟩
          refine Chk1_iff.2 ⟨by rw [bn7.cell]; rfl, ?_⟩
          refine Chk1_iff.2 ⟨by rw [bn6.cell]; rfl, ?_⟩
          refine Chk1_iff.2 ⟨by rw [bn6.cell]; rfl, ?_⟩
          refine F13_call (C13 hy hq hm fun n_b f_b p_b c_b w10 hn_b hs_b f10 => back_bits ?_)
          replace fr := fr.trans f10 fun _ h => h.elim
          have z10 := f10.size
          replace hq := hq.fr0 f10
          replace hs_z := hs_z.fr0 f10
          replace hs_a := hs_a.fr0 f10
          replace bn6 := bn6.fr f10 id
          replace bn7 := bn7.fr f10 id
          replace bn76 := bn76.fr f10 id
          replace bn85 := bn85.fr f10 id
          refine Chk1_iff.2 ⟨by rw [bn6.cell]; rfl, ?_⟩
          refine Chk1_iff.2 ⟨by rw [bn6.cell]; rfl, ?_⟩
          refine store_intro bn76 (by simp) rfl fun w11 bn76 f11 z11 => ?_
          replace fr := fr.trans f11 fun x (e : x = n76) => .inr (by omega)
          replace hs_z := hs_z.st f11 (by omega)
          replace hs_a := hs_a.st f11 (by omega)
          replace hs_b := hs_b.st f11 (by omega)
          replace bn6 := bn6.fr f11 (show ¬ n6 = n76 by omega)
          replace bn7 := bn7.fr f11 (show ¬ n7 = n76 by omega)
          replace bn85 := bn85.fr f11 (show ¬ n85 = n76 by omega)
          refine store_intro bn76 (by simp) rfl fun w12 bn76 f12 z12 => ?_
          replace fr := fr.trans f12 fun x (e : x = n76) => .inr (by omega)
          replace hs_z := hs_z.st f12 (by omega)
          replace hs_a := hs_a.st f12 (by omega)
          replace hs_b := hs_b.st f12 (by omega)
          replace bn6 := bn6.fr f12 (show ¬ n6 = n76 by omega)
          replace bn7 := bn7.fr f12 (show ¬ n7 = n76 by omega)
          replace bn85 := bn85.fr f12 (show ¬ n85 = n76 by omega)
          refine Chk1_iff.2 ⟨by rw [bn7.cell]; rfl, ?_⟩
          refine Chk1_iff.2 ⟨by rw [bn7.cell]; rfl, ?_⟩
          refine store_intro bn85 (by simp) rfl fun w13 bn85 f13 z13 => ?_
          replace fr := fr.trans f13 fun x (e : x = n85) => .inr (by omega)
          replace hs_z := hs_z.st f13 (by omega)
          replace hs_a := hs_a.st f13 (by omega)
          replace hs_b := hs_b.st f13 (by omega)
          replace bn6 := bn6.fr f13 (show ¬ n6 = n85 by omega)
          replace bn7 := bn7.fr f13 (show ¬ n7 = n85 by omega)
          replace bn76 := bn76.fr f13 (show ¬ n76 = n85 by omega)
          refine store_intro bn85 (by simp) rfl fun w14 bn85 f14 z14 => ?_
          replace fr := fr.trans f14 fun x (e : x = n85) => .inr (by omega)
          replace hs_z := hs_z.st f14 (by omega)
          replace hs_a := hs_a.st f14 (by omega)
          replace hs_b := hs_b.st f14 (by omega)
          replace bn6 := bn6.fr f14 (show ¬ n6 = n85 by omega)
          replace bn7 := bn7.fr f14 (show ¬ n7 = n85 by omega)
          replace bn76 := bn76.fr f14 (show ¬ n76 = n85 by omega)
          exact F7_J1_spec (i := i) hs_a hs_b bn76 bn85 (by omega) (by omega) (by omega) (by omega) (by rw [← ef_a]; simp) fun w9 f9 => hk _ (fr.trans f9 fun _ h => h.elim)
      · refine new_intro fun n90 w7 e7 bn90 f7 z7 => ?_
        replace fr := fr.trans f7 fun _ h => h.elim
        replace hq := hq.fr0 f7
        replace hs_z := hs_z.fr0 f7
        replace bn6 := bn6.fr f7 id
        replace bn7 := bn7.fr f7 id
        refine Chk1_iff.2 ⟨by rw [bn7.cell]; rfl, ?_⟩
        refine Chk1_iff.2 ⟨by rw [bn7.cell]; rfl, ?_⟩
        refine Chk1_iff.2 ⟨by rw [bn6.cell]; rfl, ?_⟩
        refine Chk1_iff.2 ⟨by rw [bn6.cell]; rfl, ?_⟩
        refine ⟨?_, ?_⟩
        · refine F17_call (C17  (by omega) hs_z (by omega) fun p_a c_a w8 hs_a f8 => back_bits ?_)
          generalize en_a : (max n_z (i + 1)) = n_a at hs_a ⊢
          generalize ef_a : (fun j => f_z j || decide (j = i)) = f_a at hs_a ⊢
          replace fr := fr.trans f8 fun _ h => h.elim
          have z8 := f8.size
          replace hq := hq.fr0 f8
          replace hs_z := hs_z.fr0 f8
          replace bn6 := bn6.fr f8 id
          replace bn7 := bn7.fr f8 id
          replace bn90 := bn90.fr f8 id
          refine Chk1_iff.2 ⟨by rw [bn7.cell]; rfl, ?_⟩
          refine Chk1_iff.2 ⟨by rw [bn7.cell]; rfl, ?_⟩
          refine Chk1_iff.2 ⟨by rw [bn6.cell]; rfl, ?_⟩
          refine Chk1_iff.2 ⟨by rw [bn6.cell]; rfl, ?_⟩
          refine ⟨?_, ?_⟩
          · refine F13_call (C13 hy hq hm fun n_b f_b p_b c_b w9 hn_b hs_b f9 => back_bits ?_)
            replace fr := fr.trans f9 fun _ h => h.elim
            have z9 := f9.size
            replace hq := hq.fr0 f9
            replace hs_z := hs_z.fr0 f9
            replace hs_a := hs_a.fr0 f9
            replace bn6 := bn6.fr f9 id
            replace bn7 := bn7.fr f9 id
            replace bn90 := bn90.fr f9 id
            refine Chk1_iff.2 ⟨by rw [bn6.cell]; rfl, ?_⟩
            refine Chk1_iff.2 ⟨by rw [bn6.cell]; rfl, ?_⟩
            refine new_intro fun n95 w10 e10 bn95 f10 z10 => ?_
            replace fr := fr.trans f10 fun _ h => h.elim
            replace hs_z := hs_z.fr0 f10
            replace hs_a := hs_a.fr0 f10
            replace hs_b := hs_b.fr0 f10
            replace bn6 := bn6.fr f10 id
            replace bn7 := bn7.fr f10 id
            replace bn90 := bn90.fr f10 id
            refine Chk1_iff.2 ⟨by rw [bn7.cell]; rfl, ?_⟩
            refine Chk1_iff.2 ⟨by rw [bn7.cell]; rfl, ?_⟩
            refine Chk1_iff.2 ⟨by rw [bn6.cell]; rfl, ?_⟩
            refine Chk1_iff.2 ⟨by rw [bn6.cell]; rfl, ?_⟩
            refine store_intro bn95 (by simp) rfl fun w11 bn95 f11 z11 => ?_
            replace fr := fr.trans f11 fun x (e : x = n95) => .inr (by omega)
            replace hs_z := hs_z.st f11 (by omega)
            replace hs_a := hs_a.st f11 (by omega)
            replace hs_b := hs_b.st f11 (by omega)
            replace bn6 := bn6.fr f11 (show ¬ n6 = n95 by omega)
            replace bn7 := bn7.fr f11 (show ¬ n7 = n95 by omega)
            replace bn90 := bn90.fr f11 (show ¬ n90 = n95 by omega)
            refine store_intro bn95 (by simp) rfl fun w12 bn95 f12 z12 => ?_
            replace fr := fr.trans f12 fun x (e : x = n95) => .inr (by omega)
            replace hs_z := hs_z.st f12 (by omega)
            replace hs_a := hs_a.st f12 (by omega)
            replace hs_b := hs_b.st f12 (by omega)
            replace bn6 := bn6.fr f12 (show ¬ n6 = n95 by omega)
            replace bn7 := bn7.fr f12 (show ¬ n7 = n95 by omega)
            replace bn90 := bn90.fr f12 (show ¬ n90 = n95 by omega)
            refine Chk1_iff.2 ⟨by rw [bn7.cell]; rfl, ?_⟩
            refine Chk1_iff.2 ⟨by rw [bn7.cell]; rfl, ?_⟩
            refine store_intro bn90 (by simp) rfl fun w13 bn90 f13 z13 => ?_
            replace fr := fr.trans f13 fun x (e : x = n90) => .inr (by omega)
            replace hs_z := hs_z.st f13 (by omega)
            replace hs_a := hs_a.st f13 (by omega)
            replace hs_b := hs_b.st f13 (by omega)
            replace bn6 := bn6.fr f13 (show ¬ n6 = n90 by omega)
            replace bn7 := bn7.fr f13 (show ¬ n7 = n90 by omega)
            replace bn95 := bn95.fr f13 (show ¬ n95 = n90 by omega)
            refine store_intro bn90 (by simp) rfl fun w14 bn90 f14 z14 => ?_
            replace fr := fr.trans f14 fun x (e : x = n90) => .inr (by omega)
            replace hs_z := hs_z.st f14 (by omega)
            replace hs_a := hs_a.st f14 (by omega)
            replace hs_b := hs_b.st f14 (by omega)
            replace bn6 := bn6.fr f14 (show ¬ n6 = n90 by omega)
            replace bn7 := bn7.fr f14 (show ¬ n7 = n90 by omega)
            replace bn95 := bn95.fr f14 (show ¬ n95 = n90 by omega)
            exact F7_J1_spec (i := i) hs_a hs_b bn95 bn90 (by omega) (by omega) (by omega) (by omega) (by rw [← ef_a]; simp) fun w9 f9 => hk _ (fr.trans f9 fun _ h => h.elim)
          · refine new_intro fun n96 w9 e9 bn96 f9 z9 => ?_
            replace fr := fr.trans f9 fun _ h => h.elim
            replace hq := hq.fr0 f9
            replace hs_z := hs_z.fr0 f9
            replace hs_a := hs_a.fr0 f9
            replace bn6 := bn6.fr f9 id
            replace bn7 := bn7.fr f9 id
            replace bn90 := bn90.fr f9 id
            refine Chk1_iff.2 ⟨by rw [bn7.cell]; rfl, ?_⟩
            refine Chk1_iff.2 ⟨by rw [bn7.cell]; rfl, ?_⟩
            refine Chk1_iff.2 ⟨by rw [bn6.cell]; rfl, ?_⟩
            refine Chk1_iff.2 ⟨by rw [bn6.cell]; rfl, ?_⟩
            refine F13_call (C13 hy hq hm fun n_b f_b p_b c_b w10 hn_b hs_b f10 => back_bits ?_)
            replace fr := fr.trans f10 fun _ h => h.elim
            have z10 := f10.size
            replace hq := hq.fr0 f10
            replace hs_z := hs_z.fr0 f10
            replace hs_a := hs_a.fr0 f10
            replace bn6 := bn6.fr f10 id
            replace bn7 := bn7.fr f10 id
            replace bn90 := bn90.fr f10 id
            replace bn96 := bn96.fr f10 id
            refine Chk1_iff.2 ⟨by rw [bn6.cell]; rfl, ?_⟩
            refine Chk1_iff.2 ⟨by rw [bn6.cell]; rfl, ?_⟩
            refine store_intro bn96 (by simp) rfl fun w11 bn96 f11 z11 => ?_
            replace fr := fr.trans f11 fun x (e : x = n96) => .inr (by omega)
            replace hs_z := hs_z.st f11 (by omega)
            replace hs_a := hs_a.st f11 (by omega)
            replace hs_b := hs_b.st f11 (by omega)
            replace bn6 := bn6.fr f11 (show ¬ n6 = n96 by omega)
            replace bn7 := bn7.fr f11 (show ¬ n7 = n96 by omega)
            replace bn90 := bn90.fr f11 (show ¬ n90 = n96 by omega)
            refine store_intro bn96 (by simp) rfl fun w12 bn96 f12 z12 => ?_
            replace fr := fr.trans f12 fun x (e : x = n96) => .inr (by omega)
            replace hs_z := hs_z.st f12 (by omega)
            replace hs_a := hs_a.st f12 (by omega)
            replace hs_b := hs_b.st f12 (by omega)
            replace bn6 := bn6.fr f12 (show ¬ n6 = n96 by omega)
            replace bn7 := bn7.fr f12 (show ¬ n7 = n96 by omega)
            replace bn90 := bn90.fr f12 (show ¬ n90 = n96 by omega)
            refine Chk1_iff.2 ⟨by rw [bn7.cell]; rfl, ?_⟩
            refine Chk1_iff.2 ⟨by rw [bn7.cell]; rfl, ?_⟩
            refine store_intro bn90 (by simp) rfl fun w13 bn90 f13 z13 => ?_
            replace fr := fr.trans f13 fun x (e : x = n90) => .inr (by omega)
            replace hs_z := hs_z.st f13 (by omega)
            replace hs_a := hs_a.st f13 (by omega)
            replace hs_b := hs_b.st f13 (by omega)
            replace bn6 := bn6.fr f13 (show ¬ n6 = n90 by omega)
            replace bn7 := bn7.fr f13 (show ¬ n7 = n90 by omega)
            replace bn96 := bn96.fr f13 (show ¬ n96 = n90 by omega)
            refine store_intro bn90 (by simp) rfl fun w14 bn90 f14 z14 => ?_
            replace fr := fr.trans f14 fun x (e : x = n90) => .inr (by omega)
            replace hs_z := hs_z.st f14 (by omega)
            replace hs_a := hs_a.st f14 (by omega)
            replace hs_b := hs_b.st f14 (by omega)
            replace bn6 := bn6.fr f14 (show ¬ n6 = n90 by omega)
            replace bn7 := bn7.fr f14 (show ¬ n7 = n90 by omega)
            replace bn96 := bn96.fr f14 (show ¬ n96 = n90 by omega)
            exact F7_J1_spec (i := i) hs_a hs_b bn96 bn90 (by omega) (by omega) (by omega) (by omega) (by rw [← ef_a]; simp) fun w9 f9 => hk _ (fr.trans f9 fun _ h => h.elim)
        · refine new_intro fun n99 w8 e8 bn99 f8 z8 => ?_
          replace fr := fr.trans f8 fun _ h => h.elim
          replace hq := hq.fr0 f8
          replace hs_z := hs_z.fr0 f8
          replace bn6 := bn6.fr f8 id
          replace bn7 := bn7.fr f8 id
          replace bn90 := bn90.fr f8 id
          refine Chk1_iff.2 ⟨by rw [bn7.cell]; rfl, ?_⟩
          refine Chk1_iff.2 ⟨by rw [bn7.cell]; rfl, ?_⟩
          refine Chk1_iff.2 ⟨by rw [bn6.cell]; rfl, ?_⟩
          refine Chk1_iff.2 ⟨by rw [bn6.cell]; rfl, ?_⟩
          refine F17_call (C17  (by omega) hs_z (by omega) fun p_a c_a w9 hs_a f9 => back_bits ?_)
          generalize en_a : (max n_z (i + 1)) = n_a at hs_a ⊢
          generalize ef_a : (fun j => f_z j || decide (j = i)) = f_a at hs_a ⊢
          replace fr := fr.trans f9 fun _ h => h.elim
          have z9 := f9.size
          replace hq := hq.fr0 f9
          replace hs_z := hs_z.fr0 f9
          replace bn6 := bn6.fr f9 id
          replace bn7 := bn7.fr f9 id
          replace bn90 := bn90.fr f9 id
          replace bn99 := bn99.fr f9 id
          refine Chk1_iff.2 ⟨by rw [bn7.cell]; rfl, ?_⟩
          refine Chk1_iff.2 ⟨by rw [bn7.cell]; rfl, ?_⟩
          refine Chk1_iff.2 ⟨by rw [bn6.cell]; rfl, ?_⟩
          refine Chk1_iff.2 ⟨by rw [bn6.cell]; rfl, ?_⟩
          refine F13_call (C13 hy hq hm fun n_b f_b p_b c_b w10 hn_b hs_b f10 => back_bits ?_)
          replace fr := fr.trans f10 fun _ h => h.elim
          have z10 := f10.size
          replace hq := hq.fr0 f10
          replace hs_z := hs_z.fr0 f10
          replace hs_a := hs_a.fr0 f10
          replace bn6 := bn6.fr f10 id
          replace bn7 := bn7.fr f10 id
          replace bn90 := bn90.fr f10 id
          replace bn99 := bn99.fr f10 id
          refine Chk1_iff.2 ⟨by rw [bn6.cell]; rfl, ?_⟩
          refine Chk1_iff.2 ⟨by rw [bn6.cell]; rfl, ?_⟩
          refine store_intro bn99 (by simp) rfl fun w11 bn99 f11 z11 => ?_
          replace fr := fr.trans f11 fun x (e : x = n99) => .inr (by omega)
          replace hs_z := hs_z.st f11 (by omega)
          replace hs_a := hs_a.st f11 (by omega)
          replace hs_b := hs_b.st f11 (by omega)
          replace bn6 := bn6.fr f11 (show ¬ n6 = n99 by omega)
          replace bn7 := bn7.fr f11 (show ¬ n7 = n99 by omega)
          replace bn90 := bn90.fr f11 (show ¬ n90 = n99 by omega)
          refine store_intro bn99 (by simp) rfl fun w12 bn99 f12 z12 => ?_
          replace fr := fr.trans f12 fun x (e : x = n99) => .inr (by omega)
          replace hs_z := hs_z.st f12 (by omega)
          replace hs_a := hs_a.st f12 (by omega)
          replace hs_b := hs_b.st f12 (by omega)
          replace bn6 := bn6.fr f12 (show ¬ n6 = n99 by omega)
          replace bn7 := bn7.fr f12 (show ¬ n7 = n99 by omega)
          replace bn90 := bn90.fr f12 (show ¬ n90 = n99 by omega)
          refine Chk1_iff.2 ⟨by rw [bn7.cell]; rfl, ?_⟩
          refine Chk1_iff.2 ⟨by rw [bn7.cell]; rfl, ?_⟩
          refine store_intro bn90 (by simp) rfl fun w13 bn90 f13 z13 => ?_
          replace fr := fr.trans f13 fun x (e : x = n90) => .inr (by omega)
          replace hs_z := hs_z.st f13 (by omega)
          replace hs_a := hs_a.st f13 (by omega)
          replace hs_b := hs_b.st f13 (by omega)
          replace bn6 := bn6.fr f13 (show ¬ n6 = n90 by omega)
          replace bn7 := bn7.fr f13 (show ¬ n7 = n90 by omega)
          replace bn99 := bn99.fr f13 (show ¬ n99 = n90 by omega)
          refine store_intro bn90 (by simp) rfl fun w14 bn90 f14 z14 => ?_
          replace fr := fr.trans f14 fun x (e : x = n90) => .inr (by omega)
          replace hs_z := hs_z.st f14 (by omega)
          replace hs_a := hs_a.st f14 (by omega)
          replace hs_b := hs_b.st f14 (by omega)
          replace bn6 := bn6.fr f14 (show ¬ n6 = n90 by omega)
          replace bn7 := bn7.fr f14 (show ¬ n7 = n90 by omega)
          replace bn99 := bn99.fr f14 (show ¬ n99 = n90 by omega)
          exact F7_J1_spec (i := i) hs_a hs_b bn99 bn90 (by omega) (by omega) (by omega) (by omega) (by rw [← ef_a]; simp) fun w9 f9 => hk _ (fr.trans f9 fun _ h => h.elim)
  · refine ⟨?_, ?_⟩
    · refine new_intro fun n104 w6 e6 bn104 f6 z6 => ?_
      replace fr := fr.trans f6 fun _ h => h.elim
      replace hr := hr.fr0 f6
      replace hq := hq.fr0 f6
      replace bn6 := bn6.fr f6 id
      replace bn7 := bn7.fr f6 id
      refine Chk1_iff.2 ⟨by rw [bn7.cell]; rfl, ?_⟩
      refine Chk1_iff.2 ⟨by rw [bn7.cell]; rfl, ?_⟩
      refine Chk1_iff.2 ⟨by rw [bn6.cell]; rfl, ?_⟩
      refine Chk1_iff.2 ⟨by rw [bn6.cell]; rfl, ?_⟩
      refine ⟨?_, ?_⟩
      · refine F13_call (C13 hx hr hl fun n_z f_z p_z c_z w7 hn_z hs_z f7 => back_bits ?_)
        replace fr := fr.trans f7 fun _ h => h.elim
        have z7 := f7.size
        replace hr := hr.fr0 f7
        replace hq := hq.fr0 f7
        replace bn6 := bn6.fr f7 id
        replace bn7 := bn7.fr f7 id
        replace bn104 := bn104.fr f7 id
        refine Chk1_iff.2 ⟨by rw [bn7.cell]; rfl, ?_⟩
        refine Chk1_iff.2 ⟨by rw [bn7.cell]; rfl, ?_⟩
        refine ⟨?_, ?_⟩
        · refine F17_call (C17  (by omega) hs_z (by omega) fun p_a c_a w8 hs_a f8 => back_bits ?_)
          generalize en_a : (max n_z (i + 1)) = n_a at hs_a ⊢
          generalize ef_a : (fun j => f_z j || decide (j = i)) = f_a at hs_a ⊢
          replace fr := fr.trans f8 fun _ h => h.elim
          have z8 := f8.size
          replace hq := hq.fr0 f8
          replace hs_z := hs_z.fr0 f8
          replace bn6 := bn6.fr f8 id
          replace bn7 := bn7.fr f8 id
          replace bn104 := bn104.fr f8 id
          refine Chk1_iff.2 ⟨by rw [bn7.cell]; rfl, ?_⟩
          refine Chk1_iff.2 ⟨by rw [bn7.cell]; rfl, ?_⟩
          refine Chk1_iff.2 ⟨by rw [bn6.cell]; rfl, ?_⟩
          refine Chk1_iff.2 ⟨by rw [bn6.cell]; rfl, ?_⟩
          refine ⟨?_, ?_⟩
          · refine F13_call (C13 hy hq hm fun n_b f_b p_b c_b w9 hn_b hs_b f9 => back_bits ?_)
            replace fr := fr.trans f9 fun _ h => h.elim
            have z9 := f9.size
            replace hq := hq.fr0 f9
            replace hs_z := hs_z.fr0 f9
            replace hs_a := hs_a.fr0 f9
            replace bn6 := bn6.fr f9 id
            replace bn7 := bn7.fr f9 id
            replace bn104 := bn104.fr f9 id
            refine Chk1_iff.2 ⟨by rw [bn6.cell]; rfl, ?_⟩
            refine Chk1_iff.2 ⟨by rw [bn6.cell]; rfl, ?_⟩
            refine new_intro fun n111 w10 e10 bn111 f10 z10 => ?_
            replace fr := fr.trans f10 fun _ h => h.elim
            replace hs_z := hs_z.fr0 f10
            replace hs_a := hs_a.fr0 f10
            replace hs_b := hs_b.fr0 f10
            replace bn6 := bn6.fr f10 id
            replace bn7 := bn7.fr f10 id
            replace bn104 := bn104.fr f10 id
            refine Chk1_iff.2 ⟨by rw [bn7.cell]; rfl, ?_⟩
            refine Chk1_iff.2 ⟨by rw [bn7.cell]; rfl, ?_⟩
            refine Chk1_iff.2 ⟨by rw [bn6.cell]; rfl, ?_⟩
            refine Chk1_iff.2 ⟨by rw [bn6.cell]; rfl, ?_⟩
            refine store_intro bn104 (by simp) rfl fun w11 bn104 f11 z11 => ?_
            replace fr := fr.trans f11 fun x (e : x = n104) => .inr (by omega)
            replace hs_z := hs_z.st f11 (by omega)
            replace hs_a := hs_a.st f11 (by omega)
            replace hs_b := hs_b.st f11 (by omega)
            replace bn6 := bn6.fr f11 (show ¬ n6 = n104 by omega)
            replace bn7 := bn7.fr f11 (show ¬ n7 = n104 by omega)
            replace bn111 := bn111.fr f11 (show ¬ n111 = n104 by omega)
            refine store_intro bn104 (by simp) rfl fun w12 bn104 f12 z12 => ?_
            replace fr := fr.trans f12 fun x (e : x = n104) => .inr (by omega)
            replace hs_z := hs_z.st f12 (by omega)
            replace hs_a := hs_a.st f12 (by omega)
            replace hs_b := hs_b.st f12 (by omega)
            replace bn6 := bn6.fr f12 (show ¬ n6 = n104 by omega)
            replace bn7 := bn7.fr f12 (show ¬ n7 = n104 by omega)
            replace bn111 := bn111.fr f12 (show ¬ n111 = n104 by omega)
            refine Chk1_iff.2 ⟨by rw [bn7.cell]; rfl, ?_⟩
            refine Chk1_iff.2 ⟨by rw [bn7.cell]; rfl, ?_⟩
            refine store_intro bn111 (by simp) rfl fun w13 bn111 f13 z13 => ?_
            replace fr := fr.trans f13 fun x (e : x = n111) => .inr (by omega)
            replace hs_z := hs_z.st f13 (by omega)
            replace hs_a := hs_a.st f13 (by omega)
            replace hs_b := hs_b.st f13 (by omega)
            replace bn6 := bn6.fr f13 (show ¬ n6 = n111 by omega)
            replace bn7 := bn7.fr f13 (show ¬ n7 = n111 by omega)
            replace bn104 := bn104.fr f13 (show ¬ n104 = n111 by omega)
            refine store_intro bn111 (by simp) rfl fun w14 bn111 f14 z14 => ?_
            replace fr := fr.trans f14 fun x (e : x = n111) => .inr (by omega)
            replace hs_z := hs_z.st f14 (by omega)
            replace hs_a := hs_a.st f14 (by omega)
            replace hs_b := hs_b.st f14 (by omega)
            replace bn6 := bn6.fr f14 (show ¬ n6 = n111 by omega)
            replace bn7 := bn7.fr f14 (show ¬ n7 = n111 by omega)
            replace bn104 := bn104.fr f14 (show ¬ n104 = n111 by omega)
            exact F7_J1_spec (i := i) hs_a hs_b bn104 bn111 (by omega) (by omega) (by omega) (by omega) (by rw [← ef_a]; simp) fun w9 f9 => hk _ (fr.trans f9 fun _ h => h.elim)
          · refine new_intro fun n112 w9 e9 bn112 f9 z9 => ?_
            replace fr := fr.trans f9 fun _ h => h.elim
            replace hq := hq.fr0 f9
            replace hs_z := hs_z.fr0 f9
            replace hs_a := hs_a.fr0 f9
            replace bn6 := bn6.fr f9 id
            replace bn7 := bn7.fr f9 id
            replace bn104 := bn104.fr f9 id
            refine Chk1_iff.2 ⟨by rw [bn7.cell]; rfl, ?_⟩
            refine Chk1_iff.2 ⟨by rw [bn7.cell]; rfl, ?_⟩
            refine Chk1_iff.2 ⟨by rw [bn6.cell]; rfl, ?_⟩
            refine Chk1_iff.2 ⟨by rw [bn6.cell]; rfl, ?_⟩
            refine F13_call (C13 hy hq hm fun n_b f_b p_b c_b w10 hn_b hs_b f10 => back_bits ?_)
            replace fr := fr.trans f10 fun _ h => h.elim
            have z10 := f10.size
            replace hq := hq.fr0 f10
            replace hs_z := hs_z.fr0 f10
            replace hs_a := hs_a.fr0 f10
            replace bn6 := bn6.fr f10 id
            replace bn7 := bn7.fr f10 id
            replace bn104 := bn104.fr f10 id
            replace bn112 := bn112.fr f10 id
            refine Chk1_iff.2 ⟨by rw [bn6.cell]; rfl, ?_⟩
            refine Chk1_iff.2 ⟨by rw [bn6.cell]; rfl, ?_⟩
            refine store_intro bn104 (by simp) rfl fun w11 bn104 f11 z11 => ?_
            replace fr := fr.trans f11 fun x (e : x = n104) => .inr (by omega)
            replace hs_z := hs_z.st f11 (by omega)
            replace hs_a := hs_a.st f11 (by omega)
            replace hs_b := hs_b.st f11 (by omega)
            replace bn6 := bn6.fr f11 (show ¬ n6 = n104 by omega)
            replace bn7 := bn7.fr f11 (show ¬ n7 = n104 by omega)
            replace bn112 := bn112.fr f11 (show ¬ n112 = n104 by omega)
            refine store_intro bn104 (by simp) rfl fun w12 bn104 f12 z12 => ?_
            replace fr := fr.trans f12 fun x (e : x = n104) => .inr (by omega)
            replace hs_z := hs_z.st f12 (by omega)
            replace hs_a := hs_a.st f12 (by omega)
            replace hs_b := hs_b.st f12 (by omega)
            replace bn6 := bn6.fr f12 (show ¬ n6 = n104 by omega)
            replace bn7 := bn7.fr f12 (show ¬ n7 = n104 by omega)
            replace bn112 := bn112.fr f12 (show ¬ n112 = n104 by omega)
            refine Chk1_iff.2 ⟨by rw [bn7.cell]; rfl, ?_⟩
            refine Chk1_iff.2 ⟨by rw [bn7.cell]; rfl, ?_⟩
            refine store_intro bn112 (by simp) rfl fun w13 bn112 f13 z13 => ?_
            replace fr := fr.trans f13 fun x (e : x = n112) => .inr (by omega)
            replace hs_z := hs_z.st f13 (by omega)
            replace hs_a := hs_a.st f13 (by omega)
            replace hs_b := hs_b.st f13 (by omega)
            replace bn6 := bn6.fr f13 (show ¬ n6 = n112 by omega)
            replace bn7 := bn7.fr f13 (show ¬ n7 = n112 by omega)
            replace bn104 := bn104.fr f13 (show ¬ n104 = n112 by omega)
            refine store_intro bn112 (by simp) rfl fun w14 bn112 f14 z14 => ?_
            replace fr := fr.trans f14 fun x (e : x = n112) => .inr (by omega)
            replace hs_z := hs_z.st f14 (by omega)
            replace hs_a := hs_a.st f14 (by omega)
            replace hs_b := hs_b.st f14 (by omega)
            replace bn6 := bn6.fr f14 (show ¬ n6 = n112 by omega)
            replace bn7 := bn7.fr f14 (show ¬ n7 = n112 by omega)
            replace bn104 := bn104.fr f14 (show ¬ n104 = n112 by omega)
            exact F7_J1_spec (i := i) hs_a hs_b bn104 bn112 (by omega) (by omega) (by omega) (by omega) (by rw [← ef_a]; simp) fun w9 f9 => hk _ (fr.trans f9 fun _ h => h.elim)
        · refine new_intro fun n115 w8 e8 bn115 f8 z8 => ?_
          replace fr := fr.trans f8 fun _ h => h.elim
          replace hq := hq.fr0 f8
          replace hs_z := hs_z.fr0 f8
          replace bn6 := bn6.fr f8 id
          replace bn7 := bn7.fr f8 id
          replace bn104 := bn104.fr f8 id
          refine Chk1_iff.2 ⟨by rw [bn7.cell]; rfl, ?_⟩
          refine Chk1_iff.2 ⟨by rw [bn7.cell]; rfl, ?_⟩
          refine Chk1_iff.2 ⟨by rw [bn6.cell]; rfl, ?_⟩
          refine Chk1_iff.2 ⟨by rw [bn6.cell]; rfl, ?_⟩
          refine F17_call (C17  (by omega) hs_z (by omega) fun p_a c_a w9 hs_a f9 => back_bits ?_)
          generalize en_a : (max n_z (i + 1)) = n_a at hs_a ⊢
          generalize ef_a : (fun j => f_z j || decide (j = i)) = f_a at hs_a ⊢
          replace fr := fr.trans f9 fun _ h => h.elim
          have z9 := f9.size
          replace hq := hq.fr0 f9
          replace hs_z := hs_z.fr0 f9
          replace bn6 := bn6.fr f9 id
          replace bn7 := bn7.fr f9 id
          replace bn104 := bn104.fr f9 id
          replace bn115 := bn115.fr f9 id
          refine Chk1_iff.2 ⟨by rw [bn7.cell]; rfl, ?_⟩
          refine Chk1_iff.2 ⟨by rw [bn7.cell]; rfl, ?_⟩
          refine Chk1_iff.2 ⟨by rw [bn6.cell]; rfl, ?_⟩
          refine Chk1_iff.2 ⟨by rw [bn6.cell]; rfl, ?_⟩
          refine F13_call (C13 hy hq hm fun n_b f_b p_b c_b w10 hn_b hs_b f10 => back_bits ?_)
          replace fr := fr.trans f10 fun _ h => h.elim
          have z10 := f10.size
          replace hq := hq.fr0 f10
          replace hs_z := hs_z.fr0 f10
          replace hs_a := hs_a.fr0 f10
          replace bn6 := bn6.fr f10 id
          replace bn7 := bn7.fr f10 id
          replace bn104 := bn104.fr f10 id
          replace bn115 := bn115.fr f10 id
          refine Chk1_iff.2 ⟨by rw [bn6.cell]; rfl, ?_⟩
          refine Chk1_iff.2 ⟨by rw [bn6.cell]; rfl, ?_⟩
          refine store_intro bn104 (by simp) rfl fun w11 bn104 f11 z11 => ?_
          replace fr := fr.trans f11 fun x (e : x = n104) => .inr (by omega)
          replace hs_z := hs_z.st f11 (by omega)
          replace hs_a := hs_a.st f11 (by omega)
          replace hs_b := hs_b.st f11 (by omega)
          replace bn6 := bn6.fr f11 (show ¬ n6 = n104 by omega)
          replace bn7 := bn7.fr f11 (show ¬ n7 = n104 by omega)
          replace bn115 := bn115.fr f11 (show ¬ n115 = n104 by omega)
          refine store_intro bn104 (by simp) rfl fun w12 bn104 f12 z12 => ?_
          replace fr := fr.trans f12 fun x (e : x = n104) => .inr (by omega)
          replace hs_z := hs_z.st f12 (by omega)
          replace hs_a := hs_a.st f12 (by omega)
          replace hs_b := hs_b.st f12 (by omega)
          replace bn6 := bn6.fr f12 (show ¬ n6 = n104 by omega)
          replace bn7 := bn7.fr f12 (show ¬ n7 = n104 by omega)
          replace bn115 := bn115.fr f12 (show ¬ n115 = n104 by omega)
          refine Chk1_iff.2 ⟨by rw [bn7.cell]; rfl, ?_⟩
          refine Chk1_iff.2 ⟨by rw [bn7.cell]; rfl, ?_⟩
          refine store_intro bn115 (by simp) rfl fun w13 bn115 f13 z13 => ?_
          replace fr := fr.trans f13 fun x (e : x = n115) => .inr (by omega)
          replace hs_z := hs_z.st f13 (by omega)
          replace hs_a := hs_a.st f13 (by omega)
          replace hs_b := hs_b.st f13 (by omega)
          replace bn6 := bn6.fr f13 (show ¬ n6 = n115 by omega)
          replace bn7 := bn7.fr f13 (show ¬ n7 = n115 by omega)
          replace bn104 := bn104.fr f13 (show ¬ n104 = n115 by omega)
          refine store_intro bn115 (by simp) rfl fun w14 bn115 f14 z14 => ?_
          replace fr := fr.trans f14 fun x (e : x = n115) => .inr (by omega)
          replace hs_z := hs_z.st f14 (by omega)
          replace hs_a := hs_a.st f14 (by omega)
          replace hs_b := hs_b.st f14 (by omega)
          replace bn6 := bn6.fr f14 (show ¬ n6 = n115 by omega)
          replace bn7 := bn7.fr f14 (show ¬ n7 = n115 by omega)
          replace bn104 := bn104.fr f14 (show ¬ n104 = n115 by omega)
          exact F7_J1_spec (i := i) hs_a hs_b bn104 bn115 (by omega) (by omega) (by omega) (by omega) (by rw [← ef_a]; simp) fun w9 f9 => hk _ (fr.trans f9 fun _ h => h.elim)
      · refine new_intro fun n120 w7 e7 bn120 f7 z7 => ?_
        replace fr := fr.trans f7 fun _ h => h.elim
        replace hr := hr.fr0 f7
        replace hq := hq.fr0 f7
        replace bn6 := bn6.fr f7 id
        replace bn7 := bn7.fr f7 id
        replace bn104 := bn104.fr f7 id
        refine Chk1_iff.2 ⟨by rw [bn7.cell]; rfl, ?_⟩
        refine Chk1_iff.2 ⟨by rw [bn7.cell]; rfl, ?_⟩
        refine Chk1_iff.2 ⟨by rw [bn6.cell]; rfl, ?_⟩
        refine Chk1_iff.2 ⟨by rw [bn6.cell]; rfl, ?_⟩
        refine F13_call (C13 hx hr hl fun n_z f_z p_z c_z w8 hn_z hs_z f8 => back_bits ?_)
        replace fr := fr.trans f8 fun _ h => h.elim
        have z8 := f8.size
        replace hr := hr.fr0 f8
        replace hq := hq.fr0 f8
        replace bn6 := bn6.fr f8 id
        replace bn7 := bn7.fr f8 id
        replace bn104 := bn104.fr f8 id
        replace bn120 := bn120.fr f8 id
        refine Chk1_iff.2 ⟨by rw [bn7.cell]; rfl, ?_⟩
        refine Chk1_iff.2 ⟨by rw [bn7.cell]; rfl, ?_⟩
        refine F17_call (C17  (by omega) hs_z (by omega) fun p_a c_a w9 hs_a f9 => back_bits ?_)
        generalize en_a : (max n_z (i + 1)) = n_a at hs_a ⊢
        generalize ef_a : (fun j => f_z j || decide (j = i)) = f_a at hs_a ⊢
        replace fr := fr.trans f9 fun _ h => h.elim
        have z9 := f9.size
        replace hq := hq.fr0 f9
        replace hs_z := hs_z.fr0 f9
        replace bn6 := bn6.fr f9 id
        replace bn7 := bn7.fr f9 id
        replace bn104 := bn104.fr f9 id
        replace bn120 := bn120.fr f9 id
        refine Chk1_iff.2 ⟨by rw [bn7.cell]; rfl, ?_⟩
        refine Chk1_iff.2 ⟨by rw [bn7.cell]; rfl, ?_⟩
        refine Chk1_iff.2 ⟨by rw [bn6.cell]; rfl, ?_⟩
        refine Chk1_iff.2 ⟨by rw [bn6.cell]; rfl, ?_⟩
        refine F13_call (C13 hy hq hm fun n_b f_b p_b c_b w10 hn_b hs_b f10 => back_bits ?_)
        replace fr := fr.trans f10 fun _ h => h.elim
        have z10 := f10.size
        replace hq := hq.fr0 f10
        replace hs_z := hs_z.fr0 f10
        replace hs_a := hs_a.fr0 f10
        replace bn6 := bn6.fr f10 id
        replace bn7 := bn7.fr f10 id
        replace bn104 := bn104.fr f10 id
        replace bn120 := bn120.fr f10 id
        refine Chk1_iff.2 ⟨by rw [bn6.cell]; rfl, ?_⟩
        refine Chk1_iff.2 ⟨by rw [bn6.cell]; rfl, ?_⟩
        refine store_intro bn104 (by simp) rfl fun w11 bn104 f11 z11 => ?_
        replace fr := fr.trans f11 fun x (e : x = n104) => .inr (by omega)
        replace hs_z := hs_z.st f11 (by omega)
        replace hs_a := hs_a.st f11 (by omega)
        replace hs_b := hs_b.st f11 (by omega)
        replace bn6 := bn6.fr f11 (show ¬ n6 = n104 by omega)
        replace bn7 := bn7.fr f11 (show ¬ n7 = n104 by omega)
        replace bn120 := bn120.fr f11 (show ¬ n120 = n104 by omega)
        refine store_intro bn104 (by simp) rfl fun w12 bn104 f12 z12 => ?_
        replace fr := fr.trans f12 fun x (e : x = n104) => .inr (by omega)
        replace hs_z := hs_z.st f12 (by omega)
        replace hs_a := hs_a.st f12 (by omega)
        replace hs_b := hs_b.st f12 (by omega)
        replace bn6 := bn6.fr f12 (show ¬ n6 = n104 by omega)
        replace bn7 := bn7.fr f12 (show ¬ n7 = n104 by omega)
        replace bn120 := bn120.fr f12 (show ¬ n120 = n104 by omega)
        refine Chk1_iff.2 ⟨by rw [bn7.cell]; rfl, ?_⟩
        refine Chk1_iff.2 ⟨by rw [bn7.cell]; rfl, ?_⟩
        refine store_intro bn120 (by simp) rfl fun w13 bn120 f13 z13 => ?_
        replace fr := fr.trans f13 fun x (e : x = n120) => .inr (by omega)
        replace hs_z := hs_z.st f13 (by omega)
        replace hs_a := hs_a.st f13 (by omega)
        replace hs_b := hs_b.st f13 (by omega)
        replace bn6 := bn6.fr f13 (show ¬ n6 = n120 by omega)
        replace bn7 := bn7.fr f13 (show ¬ n7 = n120 by omega)
        replace bn104 := bn104.fr f13 (show ¬ n104 = n120 by omega)
        refine store_intro bn120 (by simp) rfl fun w14 bn120 f14 z14 => ?_
        replace fr := fr.trans f14 fun x (e : x = n120) => .inr (by omega)
        replace hs_z := hs_z.st f14 (by omega)
        replace hs_a := hs_a.st f14 (by omega)
        replace hs_b := hs_b.st f14 (by omega)
        replace bn6 := bn6.fr f14 (show ¬ n6 = n120 by omega)
        replace bn7 := bn7.fr f14 (show ¬ n7 = n120 by omega)
        replace bn104 := bn104.fr f14 (show ¬ n104 = n120 by omega)
        exact F7_J1_spec (i := i) hs_a hs_b bn104 bn120 (by omega) (by omega) (by omega) (by omega) (by rw [← ef_a]; simp) fun w9 f9 => hk _ (fr.trans f9 fun _ h => h.elim)
    · refine new_intro fun n127 w6 e6 bn127 f6 z6 => ?_
      replace fr := fr.trans f6 fun _ h => h.elim
      replace hr := hr.fr0 f6
      replace hq := hq.fr0 f6
      replace bn6 := bn6.fr f6 id
      replace bn7 := bn7.fr f6 id
      refine Chk1_iff.2 ⟨by rw [bn7.cell]; rfl, ?_⟩
      refine Chk1_iff.2 ⟨by rw [bn7.cell]; rfl, ?_⟩
      refine Chk1_iff.2 ⟨by rw [bn6.cell]; rfl, ?_⟩
      refine Chk1_iff.2 ⟨by rw [bn6.cell]; rfl, ?_⟩
      refine ⟨?_, ?_⟩
      · refine F13_call (C13 hx hr hl fun n_z f_z p_z c_z w7 hn_z hs_z f7 => back_bits ?_)
        replace fr := fr.trans f7 fun _ h => h.elim
        have z7 := f7.size
        replace hr := hr.fr0 f7
        replace hq := hq.fr0 f7
        replace bn6 := bn6.fr f7 id
        replace bn7 := bn7.fr f7 id
        replace bn127 := bn127.fr f7 id
        refine Chk1_iff.2 ⟨by rw [bn7.cell]; rfl, ?_⟩
        refine Chk1_iff.2 ⟨by rw [bn7.cell]; rfl, ?_⟩
        refine ⟨?_, ?_⟩
        · refine F17_call (C17  (by omega) hs_z (by omega) fun p_a c_a w8 hs_a f8 => back_bits ?_)
          generalize en_a : (max n_z (i + 1)) = n_a at hs_a ⊢
          generalize ef_a : (fun j => f_z j || decide (j = i)) = f_a at hs_a ⊢
          replace fr := fr.trans f8 fun _ h => h.elim
          have z8 := f8.size
          replace hq := hq.fr0 f8
          replace hs_z := hs_z.fr0 f8
          replace bn6 := bn6.fr f8 id
          replace bn7 := bn7.fr f8 id
          replace bn127 := bn127.fr f8 id
          refine Chk1_iff.2 ⟨by rw [bn7.cell]; rfl, ?_⟩
          refine Chk1_iff.2 ⟨by rw [bn7.cell]; rfl, ?_⟩
          refine Chk1_iff.2 ⟨by rw [bn6.cell]; rfl, ?_⟩
          refine Chk1_iff.2 ⟨by rw [bn6.cell]; rfl, ?_⟩
          refine ⟨?_, ?_⟩
          · refine F13_call (C13 hy hq hm fun n_b f_b p_b c_b w9 hn_b hs_b f9 => back_bits ?_)
            replace fr := fr.trans f9 fun _ h => h.elim
            have z9 := f9.size
            replace hq := hq.fr0 f9
            replace hs_z := hs_z.fr0 f9
            replace hs_a := hs_a.fr0 f9
            replace bn6 := bn6.fr f9 id
            replace bn7 := bn7.fr f9 id
            replace bn127 := bn127.fr f9 id
            refine Chk1_iff.2 ⟨by rw [bn6.cell]; rfl, ?_⟩
            refine Chk1_iff.2 ⟨by rw [bn6.cell]; rfl, ?_⟩
            refine new_intro fun n134 w10 e10 bn134 f10 z10 => ?_
            replace fr := fr.trans f10 fun _ h => h.elim
            replace hs_z := hs_z.fr0 f10
            replace hs_a := hs_a.fr0 f10
            replace hs_b := hs_b.fr0 f10
            replace bn6 := bn6.fr f10 id
            replace bn7 := bn7.fr f10 id
            replace bn127 := bn127.fr f10 id
            refine Chk1_iff.2 ⟨by rw [bn7.cell]; rfl, ?_⟩
            refine Chk1_iff.2 ⟨by rw [bn7.cell]; rfl, ?_⟩
            refine Chk1_iff.2 ⟨by rw [bn6.cell]; rfl, ?_⟩
            refine Chk1_iff.2 ⟨by rw [bn6.cell]; rfl, ?_⟩
            refine store_intro bn134 (by simp) rfl fun w11 bn134 f11 z11 => ?_
            replace fr := fr.trans f11 fun x (e : x = n134) => .inr (by omega)
            replace hs_z := hs_z.st f11 (by omega)
            replace hs_a := hs_a.st f11 (by omega)
            replace hs_b := hs_b.st f11 (by omega)
            replace bn6 := bn6.fr f11 (show ¬ n6 = n134 by omega)
            replace bn7 := bn7.fr f11 (show ¬ n7 = n134 by omega)
            replace bn127 := bn127.fr f11 (show ¬ n127 = n134 by omega)
            refine store_intro bn134 (by simp) rfl fun w12 bn134 f12 z12 => ?_
            replace fr := fr.trans f12 fun x (e : x = n134) => .inr (by omega)
            replace hs_z := hs_z.st f12 (by omega)
            replace hs_a := hs_a.st f12 (by omega)
            replace hs_b := hs_b.st f12 (by omega)
            replace bn6 := bn6.fr f12 (show ¬ n6 = n134 by omega)
            replace bn7 := bn7.fr f12 (show ¬ n7 = n134 by omega)
            replace bn127 := bn127.fr f12 (show ¬ n127 = n134 by omega)
            refine Chk1_iff.2 ⟨by rw [bn7.cell]; rfl, ?_⟩
            refine Chk1_iff.2 ⟨by rw [bn7.cell]; rfl, ?_⟩
            refine store_intro bn127 (by simp) rfl fun w13 bn127 f13 z13 => ?_
            replace fr := fr.trans f13 fun x (e : x = n127) => .inr (by omega)
            replace hs_z := hs_z.st f13 (by omega)
            replace hs_a := hs_a.st f13 (by omega)
            replace hs_b := hs_b.st f13 (by omega)
            replace bn6 := bn6.fr f13 (show ¬ n6 = n127 by omega)
            replace bn7 := bn7.fr f13 (show ¬ n7 = n127 by omega)
            replace bn134 := bn134.fr f13 (show ¬ n134 = n127 by omega)
            refine store_intro bn127 (by simp) rfl fun w14 bn127 f14 z14 => ?_
            replace fr := fr.trans f14 fun x (e : x = n127) => .inr (by omega)
            replace hs_z := hs_z.st f14 (by omega)
            replace hs_a := hs_a.st f14 (by omega)
            replace hs_b := hs_b.st f14 (by omega)
            replace bn6 := bn6.fr f14 (show ¬ n6 = n127 by omega)
            replace bn7 := bn7.fr f14 (show ¬ n7 = n127 by omega)
            replace bn134 := bn134.fr f14 (show ¬ n134 = n127 by omega)
            exact F7_J1_spec (i := i) hs_a hs_b bn134 bn127 (by omega) (by omega) (by omega) (by omega) (by rw [← ef_a]; simp) fun w9 f9 => hk _ (fr.trans f9 fun _ h => h.elim)
          · refine new_intro fun n135 w9 e9 bn135 f9 z9 => ?_
            replace fr := fr.trans f9 fun _ h => h.elim
            replace hq := hq.fr0 f9
            replace hs_z := hs_z.fr0 f9
            replace hs_a := hs_a.fr0 f9
            replace bn6 := bn6.fr f9 id
            replace bn7 := bn7.fr f9 id
            replace bn127 := bn127.fr f9 id
            refine Chk1_iff.2 ⟨by rw [bn7.cell]; rfl, ?_⟩
            refine Chk1_iff.2 ⟨by rw [bn7.cell]; rfl, ?_⟩
            refine Chk1_iff.2 ⟨by rw [bn6.cell]; rfl, ?_⟩
            refine Chk1_iff.2 ⟨by rw [bn6.cell]; rfl, ?_⟩
            refine F13_call (C13 hy hq hm fun n_b f_b p_b c_b w10 hn_b hs_b f10 => back_bits ?_)
            replace fr := fr.trans f10 fun _ h => h.elim
            have z10 := f10.size
            replace hq := hq.fr0 f10
            replace hs_z := hs_z.fr0 f10
            replace hs_a := hs_a.fr0 f10
            replace bn6 := bn6.fr f10 id
            replace bn7 := bn7.fr f10 id
            replace bn127 := bn127.fr f10 id
            replace bn135 := bn135.fr f10 id
            refine Chk1_iff.2 ⟨by rw [bn6.cell]; rfl, ?_⟩
            refine Chk1_iff.2 ⟨by rw [bn6.cell]; rfl, ?_⟩
            refine store_intro bn135 (by simp) rfl fun w11 bn135 f11 z11 => ?_
            replace fr := fr.trans f11 fun x (e : x = n135) => .inr (by omega)
            replace hs_z := hs_z.st f11 (by omega)
            replace hs_a := hs_a.st f11 (by omega)
            replace hs_b := hs_b.st f11 (by omega)
            replace bn6 := bn6.fr f11 (show ¬ n6 = n135 by omega)
            replace bn7 := bn7.fr f11 (show ¬ n7 = n135 by omega)
            replace bn127 := bn127.fr f11 (show ¬ n127 = n135 by omega)
            refine store_intro bn135 (by simp) rfl fun w12 bn135 f12 z12 => ?_
            replace fr := fr.trans f12 fun x (e : x = n135) => .inr (by omega)
            replace hs_z := hs_z.st f12 (by omega)
            replace hs_a := hs_a.st f12 (by omega)
            replace hs_b := hs_b.st f12 (by omega)
            replace bn6 := bn6.fr f12 (show ¬ n6 = n135 by omega)
            replace bn7 := bn7.fr f12 (show ¬ n7 = n135 by omega)
            replace bn127 := bn127.fr f12 (show ¬ n127 = n135 by omega)
            refine Chk1_iff.2 ⟨by rw [bn7.cell]; rfl, ?_⟩
            refine Chk1_iff.2 ⟨by rw [bn7.cell]; rfl, ?_⟩
            refine store_intro bn127 (by simp) rfl fun w13 bn127 f13 z13 => ?_
            replace fr := fr.trans f13 fun x (e : x = n127) => .inr (by omega)
            replace hs_z := hs_z.st f13 (by omega)
            replace hs_a := hs_a.st f13 (by omega)
            replace hs_b := hs_b.st f13 (by omega)
            replace bn6 := bn6.fr f13 (show ¬ n6 = n127 by omega)
            replace bn7 := bn7.fr f13 (show ¬ n7 = n127 by omega)
            replace bn135 := bn135.fr f13 (show ¬ n135 = n127 by omega)
            refine store_intro bn127 (by simp) rfl fun w14 bn127 f14 z14 => ?_
            replace fr := fr.trans f14 fun x (e : x = n127) => .inr (by omega)
            replace hs_z := hs_z.st f14 (by omega)
            replace hs_a := hs_a.st f14 (by omega)
            replace hs_b := hs_b.st f14 (by omega)
            replace bn6 := bn6.fr f14 (show ¬ n6 = n127 by omega)
            replace bn7 := bn7.fr f14 (show ¬ n7 = n127 by omega)
            replace bn135 := bn135.fr f14 (show ¬ n135 = n127 by omega)
            exact F7_J1_spec (i := i) hs_a hs_b bn135 bn127 (by omega) (by omega) (by omega) (by omega) (by rw [← ef_a]; simp) fun w9 f9 => hk _ (fr.trans f9 fun _ h => h.elim)
        · refine new_intro fun n138 w8 e8 bn138 f8 z8 => ?_
          replace fr := fr.trans f8 fun _ h => h.elim
          replace hq := hq.fr0 f8
          replace hs_z := hs_z.fr0 f8
          replace bn6 := bn6.fr f8 id
          replace bn7 := bn7.fr f8 id
          replace bn127 := bn127.fr f8 id
          refine Chk1_iff.2 ⟨by rw [bn7.cell]; rfl, ?_⟩
          refine Chk1_iff.2 ⟨by rw [bn7.cell]; rfl, ?_⟩
          refine Chk1_iff.2 ⟨by rw [bn6.cell]; rfl, ?_⟩
          refine Chk1_iff.2 ⟨by rw [bn6.cell]; rfl, ?_⟩
          refine F17_call (C17  (by omega) hs_z (by omega) fun p_a c_a w9 hs_a f9 => back_bits ?_)
          generalize en_a : (max n_z (i + 1)) = n_a at hs_a ⊢
          generalize ef_a : (fun j => f_z j || decide (j = i)) = f_a at hs_a ⊢
          replace fr := fr.trans f9 fun _ h => h.elim
          have z9 := f9.size
          replace hq := hq.fr0 f9
          replace hs_z := hs_z.fr0 f9
          replace bn6 := bn6.fr f9 id
          replace bn7 := bn7.fr f9 id
          replace bn127 := bn127.fr f9 id
          replace bn138 := bn138.fr f9 id
          refine Chk1_iff.2 ⟨by rw [bn7.cell]; rfl, ?_⟩
          refine Chk1_iff.2 ⟨by rw [bn7.cell]; rfl, ?_⟩
          refine Chk1_iff.2 ⟨by rw [bn6.cell]; rfl, ?_⟩
          refine Chk1_iff.2 ⟨by rw [bn6.cell]; rfl, ?_⟩
          refine F13_call (C13 hy hq hm fun n_b f_b p_b c_b w10 hn_b hs_b f10 => back_bits ?_)
          replace fr := fr.trans f10 fun _ h => h.elim
          have z10 := f10.size
          replace hq := hq.fr0 f10
          replace hs_z := hs_z.fr0 f10
          replace hs_a := hs_a.fr0 f10
          replace bn6 := bn6.fr f10 id
          replace bn7 := bn7.fr f10 id
          replace bn127 := bn127.fr f10 id
          replace bn138 := bn138.fr f10 id
          refine Chk1_iff.2 ⟨by rw [bn6.cell]; rfl, ?_⟩
          refine Chk1_iff.2 ⟨by rw [bn6.cell]; rfl, ?_⟩
          refine store_intro bn138 (by simp) rfl fun w11 bn138 f11 z11 => ?_
          replace fr := fr.trans f11 fun x (e : x = n138) => .inr (by omega)
          replace hs_z := hs_z.st f11 (by omega)
          replace hs_a := hs_a.st f11 (by omega)
          replace hs_b := hs_b.st f11 (by omega)
          replace bn6 := bn6.fr f11 (show ¬ n6 = n138 by omega)
          replace bn7 := bn7.fr f11 (show ¬ n7 = n138 by omega)
          replace bn127 := bn127.fr f11 (show ¬ n127 = n138 by omega)
          refine store_intro bn138 (by simp) rfl fun w12 bn138 f12 z12 => ?_
          replace fr := fr.trans f12 fun x (e : x = n138) => .inr (by omega)
          replace hs_z := hs_z.st f12 (by omega)
          replace hs_a := hs_a.st f12 (by omega)
          replace hs_b := hs_b.st f12 (by omega)
          replace bn6 := bn6.fr f12 (show ¬ n6 = n138 by omega)
          replace bn7 := bn7.fr f12 (show ¬ n7 = n138 by omega)
          replace bn127 := bn127.fr f12 (show ¬ n127 = n138 by omega)
          refine Chk1_iff.2 ⟨by rw [bn7.cell]; rfl, ?_⟩
          refine Chk1_iff.2 ⟨by rw [bn7.cell]; rfl, ?_⟩
          refine store_intro bn127 (by simp) rfl fun w13 bn127 f13 z13 => ?_
          replace fr := fr.trans f13 fun x (e : x = n127) => .inr (by omega)
          replace hs_z := hs_z.st f13 (by omega)
          replace hs_a := hs_a.st f13 (by omega)
          replace hs_b := hs_b.st f13 (by omega)
          replace bn6 := bn6.fr f13 (show ¬ n6 = n127 by omega)
          replace bn7 := bn7.fr f13 (show ¬ n7 = n127 by omega)
          replace bn138 := bn138.fr f13 (show ¬ n138 = n127 by omega)
          refine store_intro bn127 (by simp) rfl fun w14 bn127 f14 z14 => ?_
          replace fr := fr.trans f14 fun x (e : x = n127) => .inr (by omega)
          replace hs_z := hs_z.st f14 (by omega)
          replace hs_a := hs_a.st f14 (by omega)
          replace hs_b := hs_b.st f14 (by omega)
          replace bn6 := bn6.fr f14 (show ¬ n6 = n127 by omega)
          replace bn7 := bn7.fr f14 (show ¬ n7 = n127 by omega)
          replace bn138 := bn138.fr f14 (show ¬ n138 = n127 by omega)
          exact F7_J1_spec (i := i) hs_a hs_b bn138 bn127 (by omega) (by omega) (by omega) (by omega) (by rw [← ef_a]; simp) fun w9 f9 => hk _ (fr.trans f9 fun _ h => h.elim)
      · refine new_intro fun n143 w7 e7 bn143 f7 z7 => ?_
        replace fr := fr.trans f7 fun _ h => h.elim
        replace hr := hr.fr0 f7
        replace hq := hq.fr0 f7
        replace bn6 := bn6.fr f7 id
        replace bn7 := bn7.fr f7 id
        replace bn127 := bn127.fr f7 id
        refine Chk1_iff.2 ⟨by rw [bn7.cell]; rfl, ?_⟩
        refine Chk1_iff.2 ⟨by rw [bn7.cell]; rfl, ?_⟩
        refine Chk1_iff.2 ⟨by rw [bn6.cell]; rfl, ?_⟩
        refine Chk1_iff.2 ⟨by rw [bn6.cell]; rfl, ?_⟩
        refine F13_call (C13 hx hr hl fun n_z f_z p_z c_z w8 hn_z hs_z f8 => back_bits ?_)
        replace fr := fr.trans f8 fun _ h => h.elim
        have z8 := f8.size
        replace hr := hr.fr0 f8
        replace hq := hq.fr0 f8
        replace bn6 := bn6.fr f8 id
        replace bn7 := bn7.fr f8 id
        replace bn127 := bn127.fr f8 id
        replace bn143 := bn143.fr f8 id
        refine Chk1_iff.2 ⟨by rw [bn7.cell]; rfl, ?_⟩
        refine Chk1_iff.2 ⟨by rw [bn7.cell]; rfl, ?_⟩
        refine F17_call (C17  (by omega) hs_z (by omega) fun p_a c_a w9 hs_a f9 => back_bits ?_)
        generalize en_a : (max n_z (i + 1)) = n_a at hs_a ⊢
        generalize ef_a : (fun j => f_z j || decide (j = i)) = f_a at hs_a ⊢
        replace fr := fr.trans f9 fun _ h => h.elim
        have z9 := f9.size
        replace hq := hq.fr0 f9
        replace hs_z := hs_z.fr0 f9
        replace bn6 := bn6.fr f9 id
        replace bn7 := bn7.fr f9 id
        replace bn127 := bn127.fr f9 id
        replace bn143 := bn143.fr f9 id
        refine Chk1_iff.2 ⟨by rw [bn7.cell]; rfl, ?_⟩
        refine Chk1_iff.2 ⟨by rw [bn7.cell]; rfl, ?_⟩
        refine Chk1_iff.2 ⟨by rw [bn6.cell]; rfl, ?_⟩
        refine Chk1_iff.2 ⟨by rw [bn6.cell]; rfl, ?_⟩
        refine F13_call (C13 hy hq hm fun n_b f_b p_b c_b w10 hn_b hs_b f10 => back_bits ?_)
        replace fr := fr.trans f10 fun _ h => h.elim
        have z10 := f10.size
        replace hq := hq.fr0 f10
        replace hs_z := hs_z.fr0 f10
        replace hs_a := hs_a.fr0 f10
        replace bn6 := bn6.fr f10 id
        replace bn7 := bn7.fr f10 id
        replace bn127 := bn127.fr f10 id
        replace bn143 := bn143.fr f10 id
        refine Chk1_iff.2 ⟨by rw [bn6.cell]; rfl, ?_⟩
        refine Chk1_iff.2 ⟨by rw [bn6.cell]; rfl, ?_⟩
        refine store_intro bn143 (by simp) rfl fun w11 bn143 f11 z11 => ?_
        replace fr := fr.trans f11 fun x (e : x = n143) => .inr (by omega)
        replace hs_z := hs_z.st f11 (by omega)
        replace hs_a := hs_a.st f11 (by omega)
        replace hs_b := hs_b.st f11 (by omega)
        replace bn6 := bn6.fr f11 (show ¬ n6 = n143 by omega)
        replace bn7 := bn7.fr f11 (show ¬ n7 = n143 by omega)
        replace bn127 := bn127.fr f11 (show ¬ n127 = n143 by omega)
        refine store_intro bn143 (by simp) rfl fun w12 bn143 f12 z12 => ?_
        replace fr := fr.trans f12 fun x (e : x = n143) => .inr (by omega)
        replace hs_z := hs_z.st f12 (by omega)
        replace hs_a := hs_a.st f12 (by omega)
        replace hs_b := hs_b.st f12 (by omega)
        replace bn6 := bn6.fr f12 (show ¬ n6 = n143 by omega)
        replace bn7 := bn7.fr f12 (show ¬ n7 = n143 by omega)
        replace bn127 := bn127.fr f12 (show ¬ n127 = n143 by omega)
        refine Chk1_iff.2 ⟨by rw [bn7.cell]; rfl, ?_⟩
        refine Chk1_iff.2 ⟨by rw [bn7.cell]; rfl, ?_⟩
        refine store_intro bn127 (by simp) rfl fun w13 bn127 f13 z13 => ?_
        replace fr := fr.trans f13 fun x (e : x = n127) => .inr (by omega)
        replace hs_z := hs_z.st f13 (by omega)
        replace hs_a := hs_a.st f13 (by omega)
        replace hs_b := hs_b.st f13 (by omega)
        replace bn6 := bn6.fr f13 (show ¬ n6 = n127 by omega)
        replace bn7 := bn7.fr f13 (show ¬ n7 = n127 by omega)
        replace bn143 := bn143.fr f13 (show ¬ n143 = n127 by omega)
        refine store_intro bn127 (by simp) rfl fun w14 bn127 f14 z14 => ?_
        replace fr := fr.trans f14 fun x (e : x = n127) => .inr (by omega)
        replace hs_z := hs_z.st f14 (by omega)
        replace hs_a := hs_a.st f14 (by omega)
        replace hs_b := hs_b.st f14 (by omega)
        replace bn6 := bn6.fr f14 (show ¬ n6 = n127 by omega)
        replace bn7 := bn7.fr f14 (show ¬ n7 = n127 by omega)
        replace bn143 := bn143.fr f14 (show ¬ n143 = n127 by omega)
        exact F7_J1_spec (i := i) hs_a hs_b bn143 bn127 (by omega) (by omega) (by omega) (by omega) (by rw [← ef_a]; simp) fun w9 f9 => hk _ (fr.trans f9 fun _ h => h.elim)
end Go.Proofs.Ytopdlfecfgimpaa.E
