/-
  BSRank, BSComplement, and the law FnBSDeepRanks, walked. The straight parts were printed by this session's own program walk.py.
-/
import Derived.Test.YtopdlfecfgimpaaDoorRank
import Derived.Test.YtopdlfecfgimpaaDoorHead
namespace Go.Proofs.YtopdlfecfgimpaaDoor.E
open Go
set_option linter.unusedSimpArgs false
set_option linter.unusedVariables false
set_option maxRecDepth 100000

/-- BSRank. -/
theorem F19_spec {n i c : Nat} {p : Option Addr} {f : Nat → Bool} {k : Value → W} {w : World} (hn : n < 524288) (hi : i < 524288) (hs : Sees w p (L n f)) (hf : ∀ j, f j = true → j < n)
    (hk : ∀ w', Fr (fun _ => False) w w' → k (.int .u64 (cnt (i + 1) f)) w') : F19 k n p (L n f).length c i w := by
  unfold F19
  refine new_intro fun n4 w1 e1 bn4 f1 z1 => ?_
  have fr := f1
  replace hs := hs.fr0 f1
  refine load_int bn4 rfl ?_
  refine load_slice bn4 rfl ?_
  refine F29_call (F29_rep (by omega) hs hf fun b q w2 hB f2 hBb hBq => back_ptr ?_)
  replace fr := fr.trans f2 fun _ h => h.elim
  have z2 := f2.size
  replace hs := hs.fr0 f2
  replace bn4 := bn4.fr f2 id
  refine F41_call (F41_spec hB (by omega) (back_int ?_))
  -- k (.int .u64 x8)
  exact hk _ fr

/-- BSComplement. -/
theorem F21_spec {n c : Nat} {p : Option Addr} {f : Nat → Bool} {k : Value → W} {w : World} (hn : n < 524288) (hs : Sees w p (L n f)) (hf : ∀ j, f j = true → j < n)
    (hk : ∀ p' c' w', Sees w' p' (L n (fun j => decide (j < n) && !f j)) → Fr (fun _ => False) w w' → k (.agg #[.int .u64 n, .slice p' (L n (fun j => decide (j < n) && !f j)).length c']) w') : F21 k n p (L n f).length c w := by
  unfold F21
  refine new_intro fun n3 w1 e1 bn3 f1 z1 => ?_
  have fr := f1
  replace hs := hs.fr0 f1
  refine new_intro fun n4 w2 e2 bn4 f2 z2 => ?_
  replace fr := fr.trans f2 fun _ h => h.elim
  replace hs := hs.fr0 f2
  replace bn3 := bn3.fr f2 id
  refine load_int bn3 rfl ?_
  refine load_slice bn3 rfl ?_
  refine F29_call (F29_rep (by omega) hs hf fun b q w3 hB f3 hBb hBq => back_ptr ?_)
  replace fr := fr.trans f3 fun _ h => h.elim
  have z3 := f3.size
  replace hs := hs.fr0 f3
  replace bn3 := bn3.fr f3 id
  replace bn4 := bn4.fr f3 id
  refine F43_call (F43_spec hB (by omega) fun r qr w4 hC f4 hCr hCq => back_ptr ?_)
  replace fr := fr.trans f4 fun _ h => h.elim
  have z4 := f4.size
  replace hs := hs.fr0 f4
  replace bn3 := bn3.fr f4 id
  replace bn4 := bn4.fr f4 id
  replace hB := hB.fr f4 id id
  refine F31_call (F31_spec (by omega) hC fun p2 c2 w5 own f5 hp2 => back_bits ?_)
  replace fr := fr.trans f5 fun _ h => h.elim
  have z5 := f5.size
  replace bn3 := bn3.fr f5 id
  replace bn4 := bn4.fr f5 id
  replace hC := hC.fr f5 id id
  refine store_intro bn4 (by simp) rfl fun w6 bn4 f6 z6 => ?_
  replace fr := fr.trans f6 fun x (e : x = n4) => .inr (by omega)
  replace bn3 := bn3.fr f6 (show ¬ n3 = n4 by omega)
  replace own := own.fr f6 fun x hx (e : x = n4) => by have := hp2 x hx; omega
  refine store_intro bn4 (by simp) rfl fun w7 bn4 f7 z7 => ?_
  replace fr := fr.trans f7 fun x (e : x = n4) => .inr (by omega)
  replace bn3 := bn3.fr f7 (show ¬ n3 = n4 by omega)
  replace own := own.fr f7 fun x hx (e : x = n4) => by have := hp2 x hx; omega
  refine load_int bn4 rfl ?_
  refine load_slice bn4 rfl ?_
  -- k (.agg #[.int .u64 x11, .slice s12p s12l s12c])
  exact hk p2 c2 _ own.sees fr

theorem compl_lt {n : Nat} {f : Nat → Bool} : ∀ j, (decide (j < n) && !f j) = true → j < n := by
  intro j hj
  simp only [Bool.and_eq_true, decide_eq_true_eq] at hj; exact hj.1
theorem cnt_compl {n m : Nat} {f : Nat → Bool} (h : m ≤ n) : cnt m f + cnt m (fun j => decide (j < n) && !f j) = m := by
  induction m with
  | zero => rfl
  | succ m ih =>
    have := ih (by omega)
    simp only [cnt]
    rw [decide_eq_true (by omega : m < n)]
    cases f m <;> simp <;> omega
theorem cnt_pos {i : Nat} {f : Nat → Bool} (h : f i = true) : 0 < cnt (i + 1) f := by simp only [cnt]; rw [h]; simp
end Go.Proofs.YtopdlfecfgimpaaDoor.E
