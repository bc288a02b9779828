/-
  The law FnBSDeepFlip, walked. The straight part was printed by this session's own program walk.py.
-/
import Derived.Test.YtopdlfecfgimpaaImpl
namespace Go.Proofs.Ytopdlfecfgimpaa.E
open Go
set_option linter.unusedSimpArgs false
set_option linter.unusedVariables false
set_option maxRecDepth 100000

theorem L_more {n m : Nat} {f : Nat → Bool} (h : n ≤ m) (hf : ∀ j, f j = true → j < n) : L m f = L n f := by
  obtain ⟨d, rfl⟩ := Nat.exists_eq_add_of_le h
  clear h
  induction d with
  | zero => rfl
  | succ d ih =>
    have : f (n + d) = false := by
      cases hb : f (n + d) with
      | false => rfl
      | true => have := hf _ hb; omega
    rw [← Nat.add_assoc, L_succ, this, ih]; simp
theorem flip_twice {f : Nat → Bool} {i : Nat} : (fun j => (f j ^^ decide (j = i)) ^^ decide (j = i)) = f := by
  funext j; cases f j <;> cases decide (j = i) <;> rfl
theorem flip_lt {n i : Nat} {f : Nat → Bool} (hf : ∀ j, f j = true → j < n) : ∀ j, (f j ^^ decide (j = i)) = true → j < max n (i + 1) := by
  intro j hj
  by_cases e : j = i
  · omega
  · simp only [e, decide_false, Bool.xor_false] at hj
    have := hf j hj; omega

/-- The law. -/
theorem F3_spec {x l c a : Nat} {p : Option Addr} {k : Value → W} {w : World} (hx : x < 18446744073709551616) (hr : Reads w p l) (ha : a < 65536)
    (hk : ∀ w', Fr (fun _ => False) w w' → k (.bool true) w') : F3 k x p l c a w := by
  unfold F3
  refine new_intro fun n4 w1 e1 bn4 f1 z1 => ?_
  have fr := f1
  replace hr := hr.fr0 f1
  refine load_int bn4 rfl ?_
  refine load_slice bn4 rfl ?_
  refine F12_call (F12_spec fun b w2 f2 hb => back_bool ?_)
  replace fr := fr.trans f2 fun _ h => h.elim
  have z2 := f2.size
  replace hr := hr.fr0 f2
  replace bn4 := bn4.fr f2 id
  refine BIf_intro (fun hc => hk _ fr) (fun hc => ?_)
  have hl := hb (by simpa using hc)
  refine load_int bn4 rfl ?_
  refine load_slice bn4 rfl ?_
  refine F13_call (F13_spec hx hr hl fun n f p1 c1 w3 hn hf hs f3 => back_bits ?_)
  have f1s := Fr.refl (fun _ => False) w3
  replace fr := fr.trans f3 fun _ h => h.elim
  have z3 := f3.size
  replace hr := hr.fr0 f3
  replace bn4 := bn4.fr f3 id
  refine ⟨by decide, ?_⟩
  refine new_intro fun n12 w4 e4 bn12 f4 z4 => ?_
  replace fr := fr.trans f4 fun _ h => h.elim
  replace bn4 := bn4.fr f4 id
  replace f1s := f1s.trans f4 fun _ h => h.elim
  refine store_intro bn12 (by simp) rfl fun w5 bn12 f5 z5 => ?_
  replace fr := fr.trans f5 fun x (e : x = n12) => .inr (by omega)
  replace bn4 := bn4.fr f5 (show ¬ n4 = n12 by omega)
  replace f1s := f1s.trans f5 fun x (e : x = n12) => .inr (by omega)
  refine store_intro bn12 (by simp) rfl fun w6 bn12 f6 z6 => ?_
  replace fr := fr.trans f6 fun x (e : x = n12) => .inr (by omega)
  replace bn4 := bn4.fr f6 (show ¬ n4 = n12 by omega)
  replace f1s := f1s.trans f6 fun x (e : x = n12) => .inr (by omega)
  refine bind_intro ?_
  have ei : remI (IntKind.wrap .u64 (a : Int)) 1000 = ((a % 1000 : Nat) : Int) := by rw [wrap_u64 (by omega) (by omega), remI_eq (by omega)]; omega
  rw [ei]
  have hi : a % 1000 < 1000 := Nat.mod_lt _ (by decide)
  generalize a % 1000 = i at hi
  refine load_int bn12 rfl ?_
  refine load_slice bn12 rfl ?_
  refine F14_call (F14_spec (by omega) (by omega) (hs.fr0 f1s) hf fun p2 c2 w7 ht f7 => back_bits ?_)
  have f2s := Fr.refl (fun _ => False) w7
  replace fr := fr.trans f7 fun _ h => h.elim
  have z7 := f7.size
  replace bn4 := bn4.fr f7 id
  replace f1s := f1s.trans f7 fun _ h => h.elim
  replace bn12 := bn12.fr f7 id
  refine new_intro fun n18 w8 e8 bn18 f8 z8 => ?_
  replace fr := fr.trans f8 fun _ h => h.elim
  replace bn4 := bn4.fr f8 id
  replace f1s := f1s.trans f8 fun _ h => h.elim
  replace bn12 := bn12.fr f8 id
  replace f2s := f2s.trans f8 fun _ h => h.elim
  refine store_intro bn18 (by simp) rfl fun w9 bn18 f9 z9 => ?_
  replace fr := fr.trans f9 fun x (e : x = n18) => .inr (by omega)
  replace bn4 := bn4.fr f9 (show ¬ n4 = n18 by omega)
  replace f1s := f1s.trans f9 fun x (e : x = n18) => .inr (by omega)
  replace bn12 := bn12.fr f9 (show ¬ n12 = n18 by omega)
  replace f2s := f2s.trans f9 fun x (e : x = n18) => .inr (by omega)
  refine store_intro bn18 (by simp) rfl fun w10 bn18 f10 z10 => ?_
  replace fr := fr.trans f10 fun x (e : x = n18) => .inr (by omega)
  replace bn4 := bn4.fr f10 (show ¬ n4 = n18 by omega)
  replace f1s := f1s.trans f10 fun x (e : x = n18) => .inr (by omega)
  replace bn12 := bn12.fr f10 (show ¬ n12 = n18 by omega)
  replace f2s := f2s.trans f10 fun x (e : x = n18) => .inr (by omega)
  refine drw_intro fun w11 f11 z11 => ?_
  replace fr := fr.trans f11 fun _ h => h.elim
  replace bn4 := bn4.fr f11 id
  replace f1s := f1s.trans f11 fun _ h => h.elim
  replace bn12 := bn12.fr f11 id
  replace f2s := f2s.trans f11 fun _ h => h.elim
  replace bn18 := bn18.fr f11 id
  refine load_int bn18 rfl ?_
  refine load_slice bn18 rfl ?_
  refine load_int bn12 rfl ?_
  refine load_slice bn12 rfl ?_
  refine F15_call (F15_spec (by omega) (by omega) (ht.fr0 f2s) (flip_lt hf) fun w12 f12 => back_bool ?_)
  replace fr := fr.trans f12 fun _ h => h.elim
  have z12 := f12.size
  replace bn4 := bn4.fr f12 id
  replace f1s := f1s.trans f12 fun _ h => h.elim
  replace bn12 := bn12.fr f12 id
  replace f2s := f2s.trans f12 fun _ h => h.elim
  replace bn18 := bn18.fr f12 id
  refine Chk1_iff.2 ⟨by rw [bn12.cell]; rfl, ?_⟩
  refine Chk1_iff.2 ⟨by rw [bn12.cell]; rfl, ?_⟩
  refine F15_call (F15_spec (by omega) (by omega) (hs.fr0 f1s) hf fun w13 f13 => back_bool ?_)
  replace fr := fr.trans f13 fun _ h => h.elim
  have z13 := f13.size
  replace bn4 := bn4.fr f13 id
  replace f1s := f1s.trans f13 fun _ h => h.elim
  replace bn12 := bn12.fr f13 id
  replace f2s := f2s.trans f13 fun _ h => h.elim
  replace bn18 := bn18.fr f13 id
  refine Chk1_iff.2 ⟨by rw [bn18.cell]; rfl, ?_⟩
  refine Chk1_iff.2 ⟨by rw [bn18.cell]; rfl, ?_⟩
  have hne : (!((f i ^^ decide (i = i)) == f i)) = true := by cases f i <;> simp
  rw [hne, BIf_true]
  refine load_int bn18 rfl ?_
  refine load_slice bn18 rfl ?_
  refine load_int bn12 rfl ?_
  refine load_slice bn12 rfl ?_
  refine F14_call (F14_spec (by omega) (by omega) (ht.fr0 f2s) (flip_lt hf) fun p3 c3 w14 hu f14 => back_bits ?_)
  replace fr := fr.trans f14 fun _ h => h.elim
  have z14 := f14.size
  replace bn4 := bn4.fr f14 id
  replace f1s := f1s.trans f14 fun _ h => h.elim
  replace bn12 := bn12.fr f14 id
  replace f2s := f2s.trans f14 fun _ h => h.elim
  replace bn18 := bn18.fr f14 id
  refine Chk1_iff.2 ⟨by rw [bn12.cell]; rfl, ?_⟩
  refine Chk1_iff.2 ⟨by rw [bn12.cell]; rfl, ?_⟩
  refine Chk1_iff.2 ⟨by rw [bn12.cell]; rfl, ?_⟩
  refine Chk1_iff.2 ⟨by rw [bn12.cell]; rfl, ?_⟩
  refine Chk1_iff.2 ⟨by rw [bn18.cell]; rfl, ?_⟩
  refine Chk1_iff.2 ⟨by rw [bn18.cell]; rfl, ?_⟩
  refine F16_call (F16_spec hu (hs.fr0 f1s) (by have := L_length_le (max (max n (i + 1)) (i + 1)) (fun j => (f j ^^ decide (j = i)) ^^ decide (j = i)); omega) fun w15 f15 => back_bool ?_)
  replace fr := fr.trans f15 fun _ h => h.elim
  have z15 := f15.size
  replace bn4 := bn4.fr f15 id
  replace f1s := f1s.trans f15 fun _ h => h.elim
  replace bn12 := bn12.fr f15 id
  replace f2s := f2s.trans f15 fun _ h => h.elim
  replace bn18 := bn18.fr f15 id
  refine Chk1_iff.2 ⟨by rw [bn18.cell]; rfl, ?_⟩
  refine Chk1_iff.2 ⟨by rw [bn18.cell]; rfl, ?_⟩
  refine Chk1_iff.2 ⟨by rw [bn12.cell]; rfl, ?_⟩
  refine Chk1_iff.2 ⟨by rw [bn12.cell]; rfl, ?_⟩
  refine Chk1_iff.2 ⟨by rw [bn18.cell]; rfl, ?_⟩
  refine Chk1_iff.2 ⟨by rw [bn18.cell]; rfl, ?_⟩
  -- k (.bool b31)
  have e : L (max (max n (i + 1)) (i + 1)) (fun j => (f j ^^ decide (j = i)) ^^ decide (j = i)) = L n f := by
    rw [flip_twice]; exact L_more (by omega) hf
  rw [decide_eq_true e]
  exact hk _ fr
end Go.Proofs.Ytopdlfecfgimpaa.E
