/-
  BSRank, BSComplement, and the law FnBSDeepRanks, walked. The straight parts were printed by this session's own program walk.py.
-/
import Derived.Test.YtopdlfecfgimpaaRank
import Derived.Test.YtopdlfecfgimpaaHead
namespace Go.Proofs.Ytopdlfecfgimpaa.E
open Go
set_option linter.unusedSimpArgs false
set_option linter.unusedVariables false
set_option maxRecDepth 100000

/-- BSRank. -/
theorem F23_spec {n i c : Nat} {p : Option Addr} {f : Nat → Bool} {k : Value → W} {w : World} (hn : n < 524288) (hi : i < 524288) (hs : Sees w p (L n f)) (hf : ∀ j, f j = true → j < n)
    (hk : ∀ w', Fr (fun _ => False) w w' → k (.int .u64 (cnt (i + 1) f)) w') : F23 k n p (L n f).length c i w := by
  unfold F23
  refine new_intro fun n4 w1 e1 bn4 f1 z1 => ?_
  have fr := f1
  replace hs := hs.fr0 f1
  refine load_int bn4 rfl ?_
  refine load_slice bn4 rfl ?_
  refine F49_call (F49_rep (by omega) hs hf fun b q w2 hB f2 hBb hBq => back_ptr ?_)
  replace fr := fr.trans f2 fun _ h => h.elim
  have z2 := f2.size
  replace hs := hs.fr0 f2
  replace bn4 := bn4.fr f2 id
  refine F60_call (F60_spec hB (by omega) (back_int ?_))
  -- k (.int .u64 x8)
  exact hk _ fr

/-- BSComplement. -/
theorem F24_spec {n c : Nat} {p : Option Addr} {f : Nat → Bool} {k : Value → W} {w : World} (hn : n < 524288) (hs : Sees w p (L n f)) (hf : ∀ j, f j = true → j < n)
    (hk : ∀ p' c' w', Sees w' p' (L n (fun j => decide (j < n) && !f j)) → Fr (fun _ => False) w w' → k (.agg #[.int .u64 n, .slice p' (L n (fun j => decide (j < n) && !f j)).length c']) w') : F24 k n p (L n f).length c w := by
  unfold F24
  refine new_intro fun n3 w1 e1 bn3 f1 z1 => ?_
  have fr := f1
  replace hs := hs.fr0 f1
  refine new_intro fun n4 w2 e2 bn4 f2 z2 => ?_
  replace fr := fr.trans f2 fun _ h => h.elim
  replace hs := hs.fr0 f2
  replace bn3 := bn3.fr f2 id
  refine load_int bn3 rfl ?_
  refine load_slice bn3 rfl ?_
  refine F49_call (F49_rep (by omega) hs hf fun b q w3 hB f3 hBb hBq => back_ptr ?_)
  replace fr := fr.trans f3 fun _ h => h.elim
  have z3 := f3.size
  replace hs := hs.fr0 f3
  replace bn3 := bn3.fr f3 id
  replace bn4 := bn4.fr f3 id
  refine F61_call (F61_spec hB (by omega) fun r qr w4 hC f4 hCr hCq => back_ptr ?_)
  replace fr := fr.trans f4 fun _ h => h.elim
  have z4 := f4.size
  replace hs := hs.fr0 f4
  replace bn3 := bn3.fr f4 id
  replace bn4 := bn4.fr f4 id
  replace hB := hB.fr f4 id id
  refine F51_call (F51_spec (by omega) hC fun p2 c2 w5 own f5 hp2 => back_bits ?_)
  replace fr := fr.trans f5 fun _ h => h.elim
  have z5 := f5.size
  replace bn3 := bn3.fr f5 id
  replace bn4 := bn4.fr f5 id
  replace hC := hC.fr f5 id id
  refine store_intro bn4 (by simp) rfl fun w6 bn4 f6 z6 => ?_
  replace fr := fr.trans f6 fun x (e : x = n4) => .inr (by omega)
  replace bn3 := bn3.fr f6 (show ¬ n3 = n4 by omega)
  replace own := own.fr f6 fun x hx (e : x = n4) => by have := hp2 x hx; omega
  refine store_intro bn4 (by simp) rfl fun w7 bn4 f7 z7 => ?_
  replace fr := fr.trans f7 fun x (e : x = n4) => .inr (by omega)
  replace bn3 := bn3.fr f7 (show ¬ n3 = n4 by omega)
  replace own := own.fr f7 fun x hx (e : x = n4) => by have := hp2 x hx; omega
  refine load_int bn4 rfl ?_
  refine load_slice bn4 rfl ?_
  -- k (.agg #[.int .u64 x11, .slice s12p s12l s12c])
  exact hk p2 c2 _ own.sees fr

theorem compl_lt {n : Nat} {f : Nat → Bool} : ∀ j, (decide (j < n) && !f j) = true → j < n := by
  intro j hj
  simp only [Bool.and_eq_true, decide_eq_true_eq] at hj; exact hj.1
theorem cnt_compl {n m : Nat} {f : Nat → Bool} (h : m ≤ n) : cnt m f + cnt m (fun j => decide (j < n) && !f j) = m := by
  induction m with
  | zero => rfl
  | succ m ih =>
    have := ih (by omega)
    simp only [cnt]
    rw [decide_eq_true (by omega : m < n)]
    cases f m <;> simp <;> omega
theorem cnt_pos {i : Nat} {f : Nat → Bool} (h : f i = true) : 0 < cnt (i + 1) f := by simp only [cnt]; rw [h]; simp
/-- The law. -/
theorem F5_spec {x l c a : Nat} {p : Option Addr} {k : Value → W} {w : World} (hx : x < 18446744073709551616) (hr : Reads w p l) (ha : a < 65536)
    (hk : ∀ w', Fr (fun _ => False) w w' → k (.bool true) w') : F5 k x p l c a w := by
  unfold F5
  refine new_intro fun n4 w1 e1 bn4 f1 z1 => ?_
  have fr := f1
  refine load_int bn4 rfl ?_
  refine load_slice bn4 rfl ?_
  refine F12_call (F12_spec fun b w2 f2 hb => back_bool ?_)
  replace fr := fr.trans f2 fun _ h => h.elim
  have z2 := f2.size
  replace bn4 := bn4.fr f2 id
  refine BIf_intro (fun hc => hk _ fr) (fun hc => ?_)
  have hl := hb (by simpa using hc)
  refine ⟨by decide, ?_⟩
  refine bind_intro ?_
  have ei : remI (IntKind.wrap .u64 (a : Int)) 400 = ((a % 400 : Nat) : Int) := by rw [wrap_u64 (by omega) (by omega), remI_eq (by omega)]; omega
  rw [ei]
  have hi : a % 400 < 400 := Nat.mod_lt _ (by decide)
  generalize a % 400 = i at hi
  refine load_int bn4 rfl ?_
  refine load_slice bn4 rfl ?_
  refine F13_call (F13_spec hx (hr.fr0 fr) hl fun n0 f0 p0 c0 w3 hn0 hf0 hs0 f3 => back_bits ?_)
  replace fr := fr.trans f3 fun _ h => h.elim
  have z3 := f3.size
  replace bn4 := bn4.fr f3 id
  refine F17_call (F17_spec (by omega) (by omega) hs0 hf0 fun p1 c1 w4 hs f4 => back_bits ?_)
  obtain ⟨f, ef⟩ : ∃ f, f = (fun j => f0 j || decide (j = i)) := ⟨_, rfl⟩
  rw [← ef] at hs ⊢
  have hf : ∀ j, f j = true → j < max n0 (i + 1) := by rw [ef]; exact set_lt hf0
  have hfi : f i = true := by rw [ef]; simp
  have hn : max n0 (i + 1) ≤ 400 := by omega
  have hin : i + 1 ≤ max n0 (i + 1) := by omega
  generalize max n0 (i + 1) = n at *
  have f1s := Fr.refl (fun _ => False) w4
  replace fr := fr.trans f4 fun _ h => h.elim
  have z4 := f4.size
  replace bn4 := bn4.fr f4 id
  replace hs0 := hs0.fr0 f4
  refine new_intro fun n15 w5 e5 bn15 f5 z5 => ?_
  replace fr := fr.trans f5 fun _ h => h.elim
  replace bn4 := bn4.fr f5 id
  replace f1s := f1s.trans f5 fun _ h => h.elim
  refine store_intro bn15 (by simp) rfl fun w6 bn15 f6 z6 => ?_
  replace fr := fr.trans f6 fun x (e : x = n15) => .inr (by omega)
  replace bn4 := bn4.fr f6 (show ¬ n4 = n15 by omega)
  replace f1s := f1s.trans f6 fun x (e : x = n15) => .inr (by omega)
  refine store_intro bn15 (by simp) rfl fun w7 bn15 f7 z7 => ?_
  replace fr := fr.trans f7 fun x (e : x = n15) => .inr (by omega)
  replace bn4 := bn4.fr f7 (show ¬ n4 = n15 by omega)
  replace f1s := f1s.trans f7 fun x (e : x = n15) => .inr (by omega)
  refine drw_intro fun w8 f8 z8 => ?_
  replace fr := fr.trans f8 fun _ h => h.elim
  replace bn4 := bn4.fr f8 id
  replace f1s := f1s.trans f8 fun _ h => h.elim
  replace bn15 := bn15.fr f8 id
  refine load_int bn15 rfl ?_
  refine load_slice bn15 rfl ?_
  refine load_int bn15 rfl ?_
  refine load_slice bn15 rfl ?_
  refine F23_call (F23_spec (by omega) (by omega) (hs.fr0 f1s) hf fun w9 f9 => back_int ?_)
  replace fr := fr.trans f9 fun _ h => h.elim
  have z9 := f9.size
  replace bn4 := bn4.fr f9 id
  replace f1s := f1s.trans f9 fun _ h => h.elim
  replace bn15 := bn15.fr f9 id
  refine Chk1_iff.2 ⟨by rw [bn15.cell]; rfl, ?_⟩
  refine Chk1_iff.2 ⟨by rw [bn15.cell]; rfl, ?_⟩
  refine F24_call (F24_spec (by omega) (hs.fr0 f1s) hf fun p2 c2 w10 ht f10 => back_bits ?_)
  replace fr := fr.trans f10 fun _ h => h.elim
  have z10 := f10.size
  replace bn4 := bn4.fr f10 id
  replace f1s := f1s.trans f10 fun _ h => h.elim
  replace bn15 := bn15.fr f10 id
  refine Chk1_iff.2 ⟨by rw [bn15.cell]; rfl, ?_⟩
  refine Chk1_iff.2 ⟨by rw [bn15.cell]; rfl, ?_⟩
  refine F23_call (F23_spec (by omega) (by omega) ht compl_lt fun w11 f11 => back_int ?_)
  replace fr := fr.trans f11 fun _ h => h.elim
  have z11 := f11.size
  replace bn4 := bn4.fr f11 id
  replace f1s := f1s.trans f11 fun _ h => h.elim
  replace bn15 := bn15.fr f11 id
  replace ht := ht.fr0 f11
  refine Chk1_iff.2 ⟨by rw [bn15.cell]; rfl, ?_⟩
  refine Chk1_iff.2 ⟨by rw [bn15.cell]; rfl, ?_⟩
  refine Chk1_iff.2 ⟨by rw [bn15.cell]; rfl, ?_⟩
  refine Chk1_iff.2 ⟨by rw [bn15.cell]; rfl, ?_⟩
  have hc1 := cnt_le (i + 1) f
  have hc2 := cnt_compl (f := f) hin
  have e1 : addI .u64 ((cnt (i + 1) f : Nat) : Int) ((cnt (i + 1) (fun j => decide (j < n) && !f j) : Nat) : Int) = ((i + 1 : Nat) : Int) := by rw [addI_nat (by omega), hc2]
  have e2 : addI .u64 (i : Int) 1 = ((i + 1 : Nat) : Int) := by rw [addI_u64 (by omega) (by omega)]; omega
  rw [e1, e2, beq_self_eq_true, BIf_true]
  refine load_int bn15 rfl ?_
  refine load_slice bn15 rfl ?_
  refine F23_call (F23_spec (by omega) (by omega) (hs.fr0 f1s) hf fun w12 f12 => back_int ?_)
  replace fr := fr.trans f12 fun _ h => h.elim
  have z12 := f12.size
  replace bn4 := bn4.fr f12 id
  replace f1s := f1s.trans f12 fun _ h => h.elim
  replace bn15 := bn15.fr f12 id
  replace ht := ht.fr0 f12
  refine Chk1_iff.2 ⟨by rw [bn15.cell]; rfl, ?_⟩
  refine Chk1_iff.2 ⟨by rw [bn15.cell]; rfl, ?_⟩
  refine Chk1_iff.2 ⟨by rw [bn15.cell]; rfl, ?_⟩
  refine Chk1_iff.2 ⟨by rw [bn15.cell]; rfl, ?_⟩
  have hp := cnt_pos hfi
  rw [decide_eq_true (by omega)]
  exact hk _ fr
end Go.Proofs.Ytopdlfecfgimpaa.E
