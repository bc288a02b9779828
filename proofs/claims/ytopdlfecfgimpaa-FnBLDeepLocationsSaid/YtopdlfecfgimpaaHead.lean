/-
  The law FnBSDeepHead, walked. The straight parts were printed by this session's own program walk.py.
-/
import Derived.Test.YtopdlfecfgimpaaImpl2
import Derived.Test.YtopdlfecfgimpaaFlip
namespace Go.Proofs.Ytopdlfecfgimpaa.E
open Go
set_option linter.unusedSimpArgs false
set_option linter.unusedVariables false
set_option maxRecDepth 100000

theorem head_J1 {a_34 b_36 n m ca cb : Nat} {f : Nat → Bool} {pa pb : Option Addr} {k : Value → W} {w : World} (ba_34 : Blk w a_34 25 [.int .u64 n, .slice pa (L n f).length ca])
    (bb_36 : Blk w b_36 25 [.int .u64 m, .slice pb (L m (fun j => f j && decide (j < m))).length cb]) (hs : Sees w pa (L n f)) (hf : ∀ j, f j = true → j < n)
    (ht : Sees w pb (L m (fun j => f j && decide (j < m)))) (hmn : m ≤ n) (hn : n < 4096) (hk : ∀ w', Fr (fun _ => False) w w' → k (.bool true) w') :
    F4_J1 k ⟨a_34, 0, none⟩ m ⟨b_36, 0, none⟩ m w := by
  have hg : ∀ j, (f j && decide (j < m)) = true → j < m := fun j hj => by
    simp only [Bool.and_eq_true, decide_eq_true_eq] at hj; exact hj.2
  have hmin : min n m = m := Nat.min_eq_right hmn
  unfold F4_J1
  simp only [add_mk, Nat.zero_add, Nat.add_zero]
  refine drw_intro fun w1 f1 z1 => ?_
  have fr := f1
  replace ba_34 := ba_34.fr f1 id
  replace bb_36 := bb_36.fr f1 id
  replace hs := hs.fr0 f1
  replace ht := ht.fr0 f1
  rw [beq_self_eq_true, BIf_true]
  refine load_int bb_36 rfl ?_
  refine load_slice bb_36 rfl ?_
  refine F19_call (F19_spec (by omega) ht hg fun w2 f2 => back_int ?_)
  replace fr := fr.trans f2 fun _ h => h.elim
  have z2 := f2.size
  replace ba_34 := ba_34.fr f2 id
  replace bb_36 := bb_36.fr f2 id
  replace hs := hs.fr0 f2
  replace ht := ht.fr0 f2
  rw [beq_self_eq_true, BIf_true]
  refine load_int bb_36 rfl ?_
  refine load_slice bb_36 rfl ?_
  refine load_int ba_34 rfl ?_
  refine load_slice ba_34 rfl ?_
  refine F22_call (F22_spec (by omega) fun p1 c1 w3 hu f3 => back_bits ?_)
  replace fr := fr.trans f3 fun _ h => h.elim
  have z3 := f3.size
  replace ba_34 := ba_34.fr f3 id
  replace bb_36 := bb_36.fr f3 id
  replace hs := hs.fr0 f3
  replace ht := ht.fr0 f3
  refine Chk1_iff.2 ⟨by rw [ba_34.cell]; rfl, ?_⟩
  refine Chk1_iff.2 ⟨by rw [ba_34.cell]; rfl, ?_⟩
  refine Chk1_iff.2 ⟨by rw [bb_36.cell]; rfl, ?_⟩
  refine Chk1_iff.2 ⟨by rw [bb_36.cell]; rfl, ?_⟩
  refine Chk1_iff.2 ⟨by rw [bb_36.cell]; rfl, ?_⟩
  refine Chk1_iff.2 ⟨by rw [bb_36.cell]; rfl, ?_⟩
  refine F21_call (F21_spec (by omega) hu (fun j h => by cases h) fun p2 c2 w4 hv f4 => back_bits ?_)
  replace fr := fr.trans f4 fun _ h => h.elim
  have z4 := f4.size
  replace ba_34 := ba_34.fr f4 id
  replace bb_36 := bb_36.fr f4 id
  replace hs := hs.fr0 f4
  replace ht := ht.fr0 f4
  replace hu := hu.fr0 f4
  refine Chk1_iff.2 ⟨by rw [ba_34.cell]; rfl, ?_⟩
  refine Chk1_iff.2 ⟨by rw [ba_34.cell]; rfl, ?_⟩
  refine Chk1_iff.2 ⟨by rw [bb_36.cell]; rfl, ?_⟩
  refine Chk1_iff.2 ⟨by rw [bb_36.cell]; rfl, ?_⟩
  refine Chk1_iff.2 ⟨by rw [bb_36.cell]; rfl, ?_⟩
  refine Chk1_iff.2 ⟨by rw [bb_36.cell]; rfl, ?_⟩
  refine F20_call (F20_spec (by omega) (by omega) hs hf hv (fun j h => of_decide_eq_true h) fun p3 c3 w5 hx f5 => back_bits ?_)
  replace fr := fr.trans f5 fun _ h => h.elim
  have z5 := f5.size
  replace ba_34 := ba_34.fr f5 id
  replace bb_36 := bb_36.fr f5 id
  replace hs := hs.fr0 f5
  replace ht := ht.fr0 f5
  replace hu := hu.fr0 f5
  replace hv := hv.fr0 f5
  refine Chk1_iff.2 ⟨by rw [bb_36.cell]; rfl, ?_⟩
  refine Chk1_iff.2 ⟨by rw [bb_36.cell]; rfl, ?_⟩
  refine Chk1_iff.2 ⟨by rw [bb_36.cell]; rfl, ?_⟩
  refine Chk1_iff.2 ⟨by rw [bb_36.cell]; rfl, ?_⟩
  refine F16_call (F16_spec ht hx (by have := L_length_le m (fun j => f j && decide (j < m)); omega) fun w6 f6 => back_bool ?_)
  replace fr := fr.trans f6 fun _ h => h.elim
  have z6 := f6.size
  replace ba_34 := ba_34.fr f6 id
  replace bb_36 := bb_36.fr f6 id
  replace hs := hs.fr0 f6
  replace ht := ht.fr0 f6
  replace hu := hu.fr0 f6
  replace hv := hv.fr0 f6
  replace hx := hx.fr0 f6
  refine Chk1_iff.2 ⟨by rw [ba_34.cell]; rfl, ?_⟩
  refine Chk1_iff.2 ⟨by rw [ba_34.cell]; rfl, ?_⟩
  refine Chk1_iff.2 ⟨by rw [bb_36.cell]; rfl, ?_⟩
  refine Chk1_iff.2 ⟨by rw [bb_36.cell]; rfl, ?_⟩
  rw [decide_eq_true (by rw [hmin])]
  exact hk _ fr

theorem set_lt {n i : Nat} {f : Nat → Bool} (hf : ∀ j, f j = true → j < n) : ∀ j, (f j || decide (j = i)) = true → j < max n (i + 1) := by
  intro j hj
  simp only [Bool.or_eq_true, decide_eq_true_eq] at hj
  rcases hj with h | h
  · have := hf j h; omega
  · omega
/-- The law. -/
theorem F4_spec {x l c y m d a : Nat} {p q : Option Addr} {k : Value → W} {w : World} (hx : x < 18446744073709551616) (hr : Reads w p l) (hy : y < 18446744073709551616) (hq : Reads w q m) (ha : a < 65536)
    (hk : ∀ w', Fr (fun _ => False) w w' → k (.bool true) w') : F4 k x p l c y q m d a w := by
  unfold F4
  refine new_intro fun n6 w1 e1 bn6 f1 z1 => ?_
  have fr := f1
  refine new_intro fun n7 w2 e2 bn7 f2 z2 => ?_
  replace fr := fr.trans f2 fun _ h => h.elim
  replace bn6 := bn6.fr f2 id
  refine load_int bn6 rfl ?_
  refine load_slice bn6 rfl ?_
  refine F12_call (F12_spec fun b w3 f3 hb => back_bool ?_)
  replace fr := fr.trans f3 fun _ h => h.elim
  have z3 := f3.size
  replace bn6 := bn6.fr f3 id
  replace bn7 := bn7.fr f3 id
  refine BIf_intro (fun hc => hk _ fr) (fun hc => ?_)
  have hl := hb (by simpa using hc)
  refine load_int bn7 rfl ?_
  refine load_slice bn7 rfl ?_
  refine F12_call (F12_spec fun b2 w4 f4 hb2 => back_bool ?_)
  replace fr := fr.trans f4 fun _ h => h.elim
  have z4 := f4.size
  replace bn6 := bn6.fr f4 id
  replace bn7 := bn7.fr f4 id
  refine BIf_intro (fun hc2 => hk _ fr) (fun hc2 => ?_)
  have hm := hb2 (by simpa using hc2)
  refine load_int bn6 rfl ?_
  refine load_slice bn6 rfl ?_
  refine F13_call (F13_spec hx (hr.fr0 fr) hl fun n0 f0 p0 c0 w5 hn0 hf0 hs0 f5 => back_bits ?_)
  replace fr := fr.trans f5 fun _ h => h.elim
  have z5 := f5.size
  replace bn6 := bn6.fr f5 id
  replace bn7 := bn7.fr f5 id
  refine ⟨by decide, ?_⟩
  have ei : remI (IntKind.wrap .u64 (a : Int)) 400 = ((a % 400 : Nat) : Int) := by rw [wrap_u64 (by omega) (by omega), remI_eq (by omega)]; omega
  rw [ei]
  have hi : a % 400 < 400 := Nat.mod_lt _ (by decide)
  generalize a % 400 = i at hi
  refine F17_call (F17_spec (by omega) (by omega) hs0 hf0 fun p1 c1 w6 hs f6 => back_bits ?_)
  obtain ⟨f, ef⟩ : ∃ f, f = (fun j => f0 j || decide (j = i)) := ⟨_, rfl⟩
  rw [← ef] at hs ⊢
  have hf' : ∀ j, f j = true → j < max n0 (i + 1) := by rw [ef]; exact set_lt hf0
  have hn : max n0 (i + 1) ≤ 400 := by omega
  have hn1 : 0 < max n0 (i + 1) := by omega
  generalize max n0 (i + 1) = n at *
  have f1s := Fr.refl (fun _ => False) w6
  replace fr := fr.trans f6 fun _ h => h.elim
  have z6 := f6.size
  replace bn6 := bn6.fr f6 id
  replace bn7 := bn7.fr f6 id
  replace hs0 := hs0.fr0 f6
  refine new_intro fun n20 w7 e7 bn20 f7 z7 => ?_
  replace fr := fr.trans f7 fun _ h => h.elim
  replace bn6 := bn6.fr f7 id
  replace bn7 := bn7.fr f7 id
  replace f1s := f1s.trans f7 fun _ h => h.elim
  refine store_intro bn20 (by simp) rfl fun w8 bn20 f8 z8 => ?_
  replace fr := fr.trans f8 fun x (e : x = n20) => .inr (by omega)
  replace bn6 := bn6.fr f8 (show ¬ n6 = n20 by omega)
  replace bn7 := bn7.fr f8 (show ¬ n7 = n20 by omega)
  replace f1s := f1s.trans f8 fun x (e : x = n20) => .inr (by omega)
  refine store_intro bn20 (by simp) rfl fun w9 bn20 f9 z9 => ?_
  replace fr := fr.trans f9 fun x (e : x = n20) => .inr (by omega)
  replace bn6 := bn6.fr f9 (show ¬ n6 = n20 by omega)
  replace bn7 := bn7.fr f9 (show ¬ n7 = n20 by omega)
  replace f1s := f1s.trans f9 fun x (e : x = n20) => .inr (by omega)
  refine load_int bn20 rfl ?_
  have e0 : (((n : Nat) : Int) == 0) = false := by simpa using (by omega : n ≠ 0)
  rw [e0, BIf_false]
  refine load_int bn7 rfl ?_
  refine load_int bn20 rfl ?_
  refine ⟨by omega, ?_⟩
  refine bind_intro ?_
  have er : remI (y : Int) (n : Int) = ((y % n : Nat) : Int) := by rw [remI_eq (by omega)]; omega
  have hyn : y % n < n := Nat.mod_lt _ hn1
  have en : addI .u64 1 ((y % n : Nat) : Int) = ((1 + y % n : Nat) : Int) := by rw [addI_u64 (by omega) (by omega)]; omega
  rw [er, en]
  have enn : (1 + y % n) % 401 = 1 + y % n := Nat.mod_eq_of_lt (by omega)
  have hvn : 1 + y % n ≤ n := by omega
  generalize 1 + y % n = v at *
  refine drw_intro fun w10 f10 z10 => ?_
  replace fr := fr.trans f10 fun _ h => h.elim
  replace bn6 := bn6.fr f10 id
  replace bn7 := bn7.fr f10 id
  replace f1s := f1s.trans f10 fun _ h => h.elim
  replace bn20 := bn20.fr f10 id
  refine load_int bn20 rfl ?_
  refine load_slice bn20 rfl ?_
  refine load_slice bn7 rfl ?_
  refine ⟨?_, ?_⟩
  · refine F13_call (F13_eqn (by omega) (hq.fr0 fr) hm fun g p2 c2 w11 hg hu f11 => back_bits ?_)
    rw [enn] at hg hu ⊢
    replace fr := fr.trans f11 fun _ h => h.elim
    have z11 := f11.size
    replace bn6 := bn6.fr f11 id
    replace bn7 := bn7.fr f11 id
    replace f1s := f1s.trans f11 fun _ h => h.elim
    replace bn20 := bn20.fr f11 id
    refine Chk1_iff.2 ⟨by rw [bn7.cell]; rfl, ?_⟩
    refine Chk1_iff.2 ⟨by rw [bn20.cell]; rfl, ?_⟩
    refine Chk1_iff.2 ⟨by rw [bn20.cell]; rfl, ?_⟩
    refine ⟨?_, ?_⟩
    · refine F18_call (F18_spec (by omega) (by omega) (hs.fr0 f1s) hf' hu hg (by omega) fun p3 c3 w12 ht hp3 f12 => back_bits_int ?_)
      have l3 : ∀ x, bl p3 x → x < w12.heap.size := fun x hx => ht.lt hx
      replace fr := fr.trans f12 fun _ h => h.elim
      have z12 := f12.size
      replace bn6 := bn6.fr f12 id
      replace bn7 := bn7.fr f12 id
      replace f1s := f1s.trans f12 fun _ h => h.elim
      replace bn20 := bn20.fr f12 id
      replace hu := hu.fr0 f12
      refine Chk1_iff.2 ⟨by rw [bn7.cell]; rfl, ?_⟩
      refine new_intro fun n33 w13 e13 bn33 f13 z13 => ?_
      replace fr := fr.trans f13 fun _ h => h.elim
      replace bn6 := bn6.fr f13 id
      replace bn7 := bn7.fr f13 id
      replace f1s := f1s.trans f13 fun _ h => h.elim
      replace bn20 := bn20.fr f13 id
      replace ht := ht.fr f13 fun _ _ h => h
      refine Chk1_iff.2 ⟨by rw [bn7.cell]; rfl, ?_⟩
      refine Chk1_iff.2 ⟨by rw [bn20.cell]; rfl, ?_⟩
      refine Chk1_iff.2 ⟨by rw [bn20.cell]; rfl, ?_⟩
      refine store_intro bn33 (by simp) rfl fun w14 bn33 f14 z14 => ?_
      replace fr := fr.trans f14 fun x (e : x = n33) => .inr (by omega)
      replace bn6 := bn6.fr f14 (show ¬ n6 = n33 by omega)
      replace bn7 := bn7.fr f14 (show ¬ n7 = n33 by omega)
      replace f1s := f1s.trans f14 fun x (e : x = n33) => .inr (by omega)
      replace bn20 := bn20.fr f14 (show ¬ n20 = n33 by omega)
      replace ht := ht.fr f14 fun x hx (e : x = n33) => by have := hp3 x hx; have := l3 x hx; omega
      refine store_intro bn33 (by simp) rfl fun w15 bn33 f15 z15 => ?_
      replace fr := fr.trans f15 fun x (e : x = n33) => .inr (by omega)
      replace bn6 := bn6.fr f15 (show ¬ n6 = n33 by omega)
      replace bn7 := bn7.fr f15 (show ¬ n7 = n33 by omega)
      replace f1s := f1s.trans f15 fun x (e : x = n33) => .inr (by omega)
      replace bn20 := bn20.fr f15 (show ¬ n20 = n33 by omega)
      replace ht := ht.fr f15 fun x hx (e : x = n33) => by have := hp3 x hx; have := l3 x hx; omega
      exact head_J1 bn20 bn33 (hs.fr0 f1s) hf' ht.sees (by omega) (by omega) fun w9 f9 => hk _ (fr.trans f9 fun _ h => h.elim)
    · refine new_intro fun n52 w16 e16 bn52 f16 z16 => ?_
      replace fr := fr.trans f16 fun _ h => h.elim
      replace bn6 := bn6.fr f16 id
      replace bn7 := bn7.fr f16 id
      replace f1s := f1s.trans f16 fun _ h => h.elim
      replace bn20 := bn20.fr f16 id
      replace hu := hu.fr0 f16
      refine Chk1_iff.2 ⟨by rw [bn7.cell]; rfl, ?_⟩
      refine Chk1_iff.2 ⟨by rw [bn20.cell]; rfl, ?_⟩
      refine Chk1_iff.2 ⟨by rw [bn20.cell]; rfl, ?_⟩
      refine F18_call (F18_spec (by omega) (by omega) (hs.fr0 f1s) hf' hu hg (by omega) fun p3 c3 w17 ht hp3 f17 => back_bits_int ?_)
      have l3 : ∀ x, bl p3 x → x < w17.heap.size := fun x hx => ht.lt hx
      replace fr := fr.trans f17 fun _ h => h.elim
      have z17 := f17.size
      replace bn6 := bn6.fr f17 id
      replace bn7 := bn7.fr f17 id
      replace f1s := f1s.trans f17 fun _ h => h.elim
      replace bn20 := bn20.fr f17 id
      replace hu := hu.fr0 f17
      replace bn52 := bn52.fr f17 id
      refine Chk1_iff.2 ⟨by rw [bn7.cell]; rfl, ?_⟩
      refine store_intro bn52 (by simp) rfl fun w18 bn52 f18 z18 => ?_
      replace fr := fr.trans f18 fun x (e : x = n52) => .inr (by omega)
      replace bn6 := bn6.fr f18 (show ¬ n6 = n52 by omega)
      replace bn7 := bn7.fr f18 (show ¬ n7 = n52 by omega)
      replace f1s := f1s.trans f18 fun x (e : x = n52) => .inr (by omega)
      replace bn20 := bn20.fr f18 (show ¬ n20 = n52 by omega)
      replace ht := ht.fr f18 fun x hx (e : x = n52) => by have := hp3 x hx; have := l3 x hx; omega
      refine store_intro bn52 (by simp) rfl fun w19 bn52 f19 z19 => ?_
      replace fr := fr.trans f19 fun x (e : x = n52) => .inr (by omega)
      replace bn6 := bn6.fr f19 (show ¬ n6 = n52 by omega)
      replace bn7 := bn7.fr f19 (show ¬ n7 = n52 by omega)
      replace f1s := f1s.trans f19 fun x (e : x = n52) => .inr (by omega)
      replace bn20 := bn20.fr f19 (show ¬ n20 = n52 by omega)
      replace ht := ht.fr f19 fun x hx (e : x = n52) => by have := hp3 x hx; have := l3 x hx; omega
      exact head_J1 bn20 bn52 (hs.fr0 f1s) hf' ht.sees (by omega) (by omega) fun w9 f9 => hk _ (fr.trans f9 fun _ h => h.elim)
  · refine new_intro fun n56 w20 e20 bn56 f20 z20 => ?_
    replace fr := fr.trans f20 fun _ h => h.elim
    replace bn6 := bn6.fr f20 id
    replace bn7 := bn7.fr f20 id
    replace f1s := f1s.trans f20 fun _ h => h.elim
    replace bn20 := bn20.fr f20 id
    refine Chk1_iff.2 ⟨by rw [bn7.cell]; rfl, ?_⟩
    refine Chk1_iff.2 ⟨by rw [bn20.cell]; rfl, ?_⟩
    refine Chk1_iff.2 ⟨by rw [bn20.cell]; rfl, ?_⟩
    refine F13_call (F13_eqn (by omega) (hq.fr0 fr) hm fun g p2 c2 w21 hg hu f21 => back_bits ?_)
    rw [enn] at hg hu ⊢
    replace fr := fr.trans f21 fun _ h => h.elim
    have z21 := f21.size
    replace bn6 := bn6.fr f21 id
    replace bn7 := bn7.fr f21 id
    replace f1s := f1s.trans f21 fun _ h => h.elim
    replace bn20 := bn20.fr f21 id
    replace bn56 := bn56.fr f21 id
    refine Chk1_iff.2 ⟨by rw [bn7.cell]; rfl, ?_⟩
    refine Chk1_iff.2 ⟨by rw [bn20.cell]; rfl, ?_⟩
    refine Chk1_iff.2 ⟨by rw [bn20.cell]; rfl, ?_⟩
    refine F18_call (F18_spec (by omega) (by omega) (hs.fr0 f1s) hf' hu hg (by omega) fun p3 c3 w22 ht hp3 f22 => back_bits_int ?_)
    have l3 : ∀ x, bl p3 x → x < w22.heap.size := fun x hx => ht.lt hx
    replace fr := fr.trans f22 fun _ h => h.elim
    have z22 := f22.size
    replace bn6 := bn6.fr f22 id
    replace bn7 := bn7.fr f22 id
    replace f1s := f1s.trans f22 fun _ h => h.elim
    replace bn20 := bn20.fr f22 id
    replace bn56 := bn56.fr f22 id
    replace hu := hu.fr0 f22
    refine Chk1_iff.2 ⟨by rw [bn7.cell]; rfl, ?_⟩
    refine store_intro bn56 (by simp) rfl fun w23 bn56 f23 z23 => ?_
    replace fr := fr.trans f23 fun x (e : x = n56) => .inr (by omega)
    replace bn6 := bn6.fr f23 (show ¬ n6 = n56 by omega)
    replace bn7 := bn7.fr f23 (show ¬ n7 = n56 by omega)
    replace f1s := f1s.trans f23 fun x (e : x = n56) => .inr (by omega)
    replace bn20 := bn20.fr f23 (show ¬ n20 = n56 by omega)
    replace ht := ht.fr f23 fun x hx (e : x = n56) => by have := hp3 x hx; have := l3 x hx; omega
    refine store_intro bn56 (by simp) rfl fun w24 bn56 f24 z24 => ?_
    replace fr := fr.trans f24 fun x (e : x = n56) => .inr (by omega)
    replace bn6 := bn6.fr f24 (show ¬ n6 = n56 by omega)
    replace bn7 := bn7.fr f24 (show ¬ n7 = n56 by omega)
    replace f1s := f1s.trans f24 fun x (e : x = n56) => .inr (by omega)
    replace bn20 := bn20.fr f24 (show ¬ n20 = n56 by omega)
    replace ht := ht.fr f24 fun x hx (e : x = n56) => by have := hp3 x hx; have := l3 x hx; omega
    exact head_J1 bn20 bn56 (hs.fr0 f1s) hf' ht.sees (by omega) (by omega) fun w9 f9 => hk _ (fr.trans f9 fun _ h => h.elim)
end Go.Proofs.Ytopdlfecfgimpaa.E
