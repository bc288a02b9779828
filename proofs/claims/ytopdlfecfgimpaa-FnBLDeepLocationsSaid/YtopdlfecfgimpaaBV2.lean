/-
  The thin package's functions on bit lists: counts, ranges, differences. The straight parts were printed by this session's own program aw.py.
-/
import Derived.Test.YtopdlfecfgimpaaOps2
namespace Go.Proofs.Ytopdlfecfgimpaa.E
open Go
set_option linter.unusedSimpArgs false
set_option linter.unusedVariables false
set_option maxRecDepth 100000
/-- BSUnionCardinality. -/
theorem C29 {n c lo hi : Nat} {p : Option Addr} {f : Nat → Bool} {m d lo2 hi2 : Nat} {q : Option Addr} {g : Nat → Bool} {k : Value → W} {w : World} (hn : n < 524288) (hs : BV w lo hi n p f) (hm : m < 524288) (ht : BV w lo2 hi2 m q g)
    (hk : ∀ w', Fr (fun _ => False) w w' → k (.int .u64 (cnt (max n m) (fun j => f j || g j) : Nat)) w') : F29 k n p (L n f).length c m q (L m g).length d w := by
  unfold F29
  refine new_intro fun n5 w1 e1 bn5 f1 z1 => ?_
  have fr := f1
  replace hs := hs.fr0 f1
  replace ht := ht.fr0 f1
  refine new_intro fun n6 w2 e2 bn6 f2 z2 => ?_
  replace fr := fr.trans f2 fun _ h => h.elim
  replace hs := hs.fr0 f2
  replace ht := ht.fr0 f2
  replace bn5 := bn5.fr f2 id
  refine drw_intro fun w3 f3 z3 => ?_
  replace fr := fr.trans f3 fun _ h => h.elim
  replace hs := hs.fr0 f3
  replace ht := ht.fr0 f3
  replace bn5 := bn5.fr f3 id
  replace bn6 := bn6.fr f3 id
  refine load_int bn5 rfl ?_
  refine load_slice bn5 rfl ?_
  refine load_int bn6 rfl ?_
  refine load_slice bn6 rfl ?_
  refine F49_call (F49_bv (by omega) hs fun b2 q3 w4 hB1 f4 hB1b hB1q => back_ptr ?_)
  replace fr := fr.trans f4 fun _ h => h.elim
  have z4 := f4.size
  replace hs := hs.fr0 f4
  replace ht := ht.fr0 f4
  replace bn5 := bn5.fr f4 id
  replace bn6 := bn6.fr f4 id
  refine Chk1_iff.2 ⟨by rw [bn6.cell]; rfl, ?_⟩
  refine Chk1_iff.2 ⟨by rw [bn6.cell]; rfl, ?_⟩
  refine F49_call (F49_bv (by omega) ht fun b5 q6 w5 hB4 f5 hB4b hB4q => back_ptr ?_)
  replace fr := fr.trans f5 fun _ h => h.elim
  have z5 := f5.size
  replace ht := ht.fr0 f5
  replace hB1 := hB1.fr f5 id id
  replace bn5 := bn5.fr f5 id
  replace bn6 := bn6.fr f5 id
  refine Chk1_iff.2 ⟨by rw [bn5.cell]; rfl, ?_⟩
  refine Chk1_iff.2 ⟨by rw [bn5.cell]; rfl, ?_⟩
  refine F66_call (F66_spec hB1 hB4 (by omega) (by omega) fun w6 f6 => back_int ?_)
  replace fr := fr.trans f6 fun _ h => h.elim
  have z6 := f6.size
  replace hB1 := hB1.fr f6 id id
  replace hB4 := hB4.fr f6 id id
  replace bn5 := bn5.fr f6 id
  replace bn6 := bn6.fr f6 id
  refine Chk1_iff.2 ⟨by rw [bn6.cell]; rfl, ?_⟩
  refine Chk1_iff.2 ⟨by rw [bn6.cell]; rfl, ?_⟩
  refine Chk1_iff.2 ⟨by rw [bn5.cell]; rfl, ?_⟩
  refine Chk1_iff.2 ⟨by rw [bn5.cell]; rfl, ?_⟩
  exact hk _ fr
/-- BSCount. -/
theorem C30 {n c lo hi : Nat} {p : Option Addr} {f : Nat → Bool} {k : Value → W} {w : World} (hn : n < 524288) (hs : BV w lo hi n p f)
    (hk : ∀ w', Fr (fun _ => False) w w' → k (.int .u64 (cnt n f : Nat)) w') : F30 k n p (L n f).length c w := by
  unfold F30
  refine new_intro fun n3 w1 e1 bn3 f1 z1 => ?_
  have fr := f1
  replace hs := hs.fr0 f1
  refine load_int bn3 rfl ?_
  refine load_slice bn3 rfl ?_
  refine F49_call (F49_bv (by omega) hs fun b2 q3 w2 hB1 f2 hB1b hB1q => back_ptr ?_)
  replace fr := fr.trans f2 fun _ h => h.elim
  have z2 := f2.size
  replace hs := hs.fr0 f2
  replace bn3 := bn3.fr f2 id
  refine F67_call (F67_spec hB1 (back_int ?_))
  exact hk _ fr
/-- BSIntersectionCardinality. -/
theorem C31 {n c lo hi : Nat} {p : Option Addr} {f : Nat → Bool} {m d lo2 hi2 : Nat} {q : Option Addr} {g : Nat → Bool} {k : Value → W} {w : World} (hn : n < 524288) (hs : BV w lo hi n p f) (hm : m < 524288) (ht : BV w lo2 hi2 m q g)
    (hk : ∀ w', Fr (fun _ => False) w w' → k (.int .u64 (cnt (min n m) (fun j => f j && g j) : Nat)) w') : F31 k n p (L n f).length c m q (L m g).length d w := by
  unfold F31
  refine new_intro fun n5 w1 e1 bn5 f1 z1 => ?_
  have fr := f1
  replace hs := hs.fr0 f1
  replace ht := ht.fr0 f1
  refine new_intro fun n6 w2 e2 bn6 f2 z2 => ?_
  replace fr := fr.trans f2 fun _ h => h.elim
  replace hs := hs.fr0 f2
  replace ht := ht.fr0 f2
  replace bn5 := bn5.fr f2 id
  refine drw_intro fun w3 f3 z3 => ?_
  replace fr := fr.trans f3 fun _ h => h.elim
  replace hs := hs.fr0 f3
  replace ht := ht.fr0 f3
  replace bn5 := bn5.fr f3 id
  replace bn6 := bn6.fr f3 id
  refine load_int bn5 rfl ?_
  refine load_slice bn5 rfl ?_
  refine load_int bn6 rfl ?_
  refine load_slice bn6 rfl ?_
  refine F49_call (F49_bv (by omega) hs fun b2 q3 w4 hB1 f4 hB1b hB1q => back_ptr ?_)
  replace fr := fr.trans f4 fun _ h => h.elim
  have z4 := f4.size
  replace hs := hs.fr0 f4
  replace ht := ht.fr0 f4
  replace bn5 := bn5.fr f4 id
  replace bn6 := bn6.fr f4 id
  refine Chk1_iff.2 ⟨by rw [bn6.cell]; rfl, ?_⟩
  refine Chk1_iff.2 ⟨by rw [bn6.cell]; rfl, ?_⟩
  refine F49_call (F49_bv (by omega) ht fun b5 q6 w5 hB4 f5 hB4b hB4q => back_ptr ?_)
  replace fr := fr.trans f5 fun _ h => h.elim
  have z5 := f5.size
  replace ht := ht.fr0 f5
  replace hB1 := hB1.fr f5 id id
  replace bn5 := bn5.fr f5 id
  replace bn6 := bn6.fr f5 id
  refine Chk1_iff.2 ⟨by rw [bn5.cell]; rfl, ?_⟩
  refine Chk1_iff.2 ⟨by rw [bn5.cell]; rfl, ?_⟩
  refine F68_call (F68_spec hB1 hB4 (by omega) (by omega) fun w6 f6 => back_int ?_)
  replace fr := fr.trans f6 fun _ h => h.elim
  have z6 := f6.size
  replace hB1 := hB1.fr f6 id id
  replace hB4 := hB4.fr f6 id id
  replace bn5 := bn5.fr f6 id
  replace bn6 := bn6.fr f6 id
  refine Chk1_iff.2 ⟨by rw [bn6.cell]; rfl, ?_⟩
  refine Chk1_iff.2 ⟨by rw [bn6.cell]; rfl, ?_⟩
  refine Chk1_iff.2 ⟨by rw [bn5.cell]; rfl, ?_⟩
  refine Chk1_iff.2 ⟨by rw [bn5.cell]; rfl, ?_⟩
  exact hk _ fr
/-- BSSymmetricDifferenceCardinality. -/
theorem C32 {n c lo hi : Nat} {p : Option Addr} {f : Nat → Bool} {m d lo2 hi2 : Nat} {q : Option Addr} {g : Nat → Bool} {k : Value → W} {w : World} (hn : n < 524288) (hs : BV w lo hi n p f) (hm : m < 524288) (ht : BV w lo2 hi2 m q g)
    (hk : ∀ w', Fr (fun _ => False) w w' → k (.int .u64 (cnt (max n m) (fun j => f j ^^ g j) : Nat)) w') : F32 k n p (L n f).length c m q (L m g).length d w := by
  unfold F32
  refine new_intro fun n5 w1 e1 bn5 f1 z1 => ?_
  have fr := f1
  replace hs := hs.fr0 f1
  replace ht := ht.fr0 f1
  refine new_intro fun n6 w2 e2 bn6 f2 z2 => ?_
  replace fr := fr.trans f2 fun _ h => h.elim
  replace hs := hs.fr0 f2
  replace ht := ht.fr0 f2
  replace bn5 := bn5.fr f2 id
  refine drw_intro fun w3 f3 z3 => ?_
  replace fr := fr.trans f3 fun _ h => h.elim
  replace hs := hs.fr0 f3
  replace ht := ht.fr0 f3
  replace bn5 := bn5.fr f3 id
  replace bn6 := bn6.fr f3 id
  refine load_int bn5 rfl ?_
  refine load_slice bn5 rfl ?_
  refine load_int bn6 rfl ?_
  refine load_slice bn6 rfl ?_
  refine F49_call (F49_bv (by omega) hs fun b2 q3 w4 hB1 f4 hB1b hB1q => back_ptr ?_)
  replace fr := fr.trans f4 fun _ h => h.elim
  have z4 := f4.size
  replace hs := hs.fr0 f4
  replace ht := ht.fr0 f4
  replace bn5 := bn5.fr f4 id
  replace bn6 := bn6.fr f4 id
  refine Chk1_iff.2 ⟨by rw [bn6.cell]; rfl, ?_⟩
  refine Chk1_iff.2 ⟨by rw [bn6.cell]; rfl, ?_⟩
  refine F49_call (F49_bv (by omega) ht fun b5 q6 w5 hB4 f5 hB4b hB4q => back_ptr ?_)
  replace fr := fr.trans f5 fun _ h => h.elim
  have z5 := f5.size
  replace ht := ht.fr0 f5
  replace hB1 := hB1.fr f5 id id
  replace bn5 := bn5.fr f5 id
  replace bn6 := bn6.fr f5 id
  refine Chk1_iff.2 ⟨by rw [bn5.cell]; rfl, ?_⟩
  refine Chk1_iff.2 ⟨by rw [bn5.cell]; rfl, ?_⟩
  refine F69_call (F69_spec hB1 hB4 (by omega) (by omega) fun w6 f6 => back_int ?_)
  replace fr := fr.trans f6 fun _ h => h.elim
  have z6 := f6.size
  replace hB1 := hB1.fr f6 id id
  replace hB4 := hB4.fr f6 id id
  replace bn5 := bn5.fr f6 id
  replace bn6 := bn6.fr f6 id
  refine Chk1_iff.2 ⟨by rw [bn6.cell]; rfl, ?_⟩
  refine Chk1_iff.2 ⟨by rw [bn6.cell]; rfl, ?_⟩
  refine Chk1_iff.2 ⟨by rw [bn5.cell]; rfl, ?_⟩
  refine Chk1_iff.2 ⟨by rw [bn5.cell]; rfl, ?_⟩
  exact hk _ fr
/-- BSSetRange. -/
theorem C33 {n c lo hi : Nat} {p : Option Addr} {f : Nat → Bool} {s e : Nat} {k : Value → W} {w : World} (hn : n < 524288) (hs : BV w lo hi n p f) (hse : s < e) (he' : e < 524288)
    (hk : ∀ p' c' w', BV w' w.heap.size w'.heap.size (max n e) p' (fun j => f j || rg s e j) → Fr (fun _ => False) w w' → k (.agg #[.int .u64 (max n e : Nat), .slice p' (L (max n e) (fun j => f j || rg s e j)).length c']) w') : F33 k n p (L n f).length c s e w := by
  unfold F33
  refine new_intro fun n5 w1 e1 bn5 f1 z1 => ?_
  have fr := f1
  replace hs := hs.fr0 f1
  refine new_intro fun n6 w2 e2 bn6 f2 z2 => ?_
  replace fr := fr.trans f2 fun _ h => h.elim
  replace hs := hs.fr0 f2
  replace bn5 := bn5.fr f2 id
  refine load_int bn5 rfl ?_
  refine load_slice bn5 rfl ?_
  refine F49_call (F49_bv (by omega) hs fun b2 q3 w3 hB1 f3 hB1b hB1q => back_ptr ?_)
  replace fr := fr.trans f3 fun _ h => h.elim
  have z3 := f3.size
  replace hs := hs.fr0 f3
  replace bn5 := bn5.fr f3 id
  replace bn6 := bn6.fr f3 id
  refine F70_call (F70_spec hB1 hse he' (by omega) fun q4 w4 hB1 f4 hq4 => back_ptr ?_)
  replace fr := fr.trans f4 fun x e => by rcases e with rfl | rfl <;> exact .inr (by omega)
  have z4 := f4.size
  replace bn5 := bn5.fr f4 (by rintro (e | e) <;> omega)
  replace bn6 := bn6.fr f4 (by rintro (e | e) <;> omega)
  refine F51_call (F51_bv (by omega) hB1 fun p6 c7 w5 hs5 f5 => back_bits ?_)
  replace fr := fr.trans f5 fun _ h => h.elim
  have z5 := f5.size
  replace hB1 := hB1.fr f5 id id
  replace bn5 := bn5.fr f5 id
  replace bn6 := bn6.fr f5 id
  refine store_intro bn6 (by simp) rfl fun w6 bn6 f6 z6 => ?_
  replace fr := fr.trans f6 fun x (e : x = n6) => .inr (by omega)
  replace hs5 := hs5.st f6 (by omega)
  replace bn5 := bn5.fr f6 (show ¬ n5 = n6 by omega)
  refine store_intro bn6 (by simp) rfl fun w7 bn6 f7 z7 => ?_
  replace fr := fr.trans f7 fun x (e : x = n6) => .inr (by omega)
  replace hs5 := hs5.st f7 (by omega)
  replace bn5 := bn5.fr f7 (show ¬ n5 = n6 by omega)
  refine load_int bn6 rfl ?_
  refine load_slice bn6 rfl ?_
  exact hk _ _ _ (hs5.widen (by omega) (by omega)) fr
/-- BSFlipRange. -/
theorem C34 {n c lo hi : Nat} {p : Option Addr} {f : Nat → Bool} {s e : Nat} {k : Value → W} {w : World} (hn : n < 524288) (hs : BV w lo hi n p f) (hse : s < e) (he' : e < 524288)
    (hk : ∀ p' c' w', BV w' w.heap.size w'.heap.size (max n e) p' (fun j => f j ^^ rg s e j) → Fr (fun _ => False) w w' → k (.agg #[.int .u64 (max n e : Nat), .slice p' (L (max n e) (fun j => f j ^^ rg s e j)).length c']) w') : F34 k n p (L n f).length c s e w := by
  unfold F34
  refine new_intro fun n5 w1 e1 bn5 f1 z1 => ?_
  have fr := f1
  replace hs := hs.fr0 f1
  refine new_intro fun n6 w2 e2 bn6 f2 z2 => ?_
  replace fr := fr.trans f2 fun _ h => h.elim
  replace hs := hs.fr0 f2
  replace bn5 := bn5.fr f2 id
  refine load_int bn5 rfl ?_
  refine load_slice bn5 rfl ?_
  refine F49_call (F49_bv (by omega) hs fun b2 q3 w3 hB1 f3 hB1b hB1q => back_ptr ?_)
  replace fr := fr.trans f3 fun _ h => h.elim
  have z3 := f3.size
  replace hs := hs.fr0 f3
  replace bn5 := bn5.fr f3 id
  replace bn6 := bn6.fr f3 id
  refine F71_call (F71_spec hB1 hse he' (by omega) fun q4 w4 hB1 f4 hq4 => back_ptr ?_)
  replace fr := fr.trans f4 fun x e => by rcases e with rfl | rfl <;> exact .inr (by omega)
  have z4 := f4.size
  replace bn5 := bn5.fr f4 (by rintro (e | e) <;> omega)
  replace bn6 := bn6.fr f4 (by rintro (e | e) <;> omega)
  refine F51_call (F51_bv (by omega) hB1 fun p6 c7 w5 hs5 f5 => back_bits ?_)
  replace fr := fr.trans f5 fun _ h => h.elim
  have z5 := f5.size
  replace hB1 := hB1.fr f5 id id
  replace bn5 := bn5.fr f5 id
  replace bn6 := bn6.fr f5 id
  refine store_intro bn6 (by simp) rfl fun w6 bn6 f6 z6 => ?_
  replace fr := fr.trans f6 fun x (e : x = n6) => .inr (by omega)
  replace hs5 := hs5.st f6 (by omega)
  replace bn5 := bn5.fr f6 (show ¬ n5 = n6 by omega)
  refine store_intro bn6 (by simp) rfl fun w7 bn6 f7 z7 => ?_
  replace fr := fr.trans f7 fun x (e : x = n6) => .inr (by omega)
  replace hs5 := hs5.st f7 (by omega)
  replace bn5 := bn5.fr f7 (show ¬ n5 = n6 by omega)
  refine load_int bn6 rfl ?_
  refine load_slice bn6 rfl ?_
  exact hk _ _ _ (hs5.widen (by omega) (by omega)) fr
/-- BSSymmetricDifference. -/
theorem C35 {n c lo hi : Nat} {p : Option Addr} {f : Nat → Bool} {m d lo2 hi2 : Nat} {q : Option Addr} {g : Nat → Bool} {k : Value → W} {w : World} (hn : n < 524288) (hs : BV w lo hi n p f) (hm : m < 524288) (ht : BV w lo2 hi2 m q g)
    (hk : ∀ p' c' w', BV w' w.heap.size w'.heap.size (max n m) p' (fun j => f j ^^ g j) → Fr (fun _ => False) w w' → k (.agg #[.int .u64 (max n m : Nat), .slice p' (L (max n m) (fun j => f j ^^ g j)).length c']) w') : F35 k n p (L n f).length c m q (L m g).length d w := by
  unfold F35
  refine new_intro fun n5 w1 e1 bn5 f1 z1 => ?_
  have fr := f1
  replace hs := hs.fr0 f1
  replace ht := ht.fr0 f1
  refine new_intro fun n6 w2 e2 bn6 f2 z2 => ?_
  replace fr := fr.trans f2 fun _ h => h.elim
  replace hs := hs.fr0 f2
  replace ht := ht.fr0 f2
  replace bn5 := bn5.fr f2 id
  refine new_intro fun n7 w3 e3 bn7 f3 z3 => ?_
  replace fr := fr.trans f3 fun _ h => h.elim
  replace hs := hs.fr0 f3
  replace ht := ht.fr0 f3
  replace bn5 := bn5.fr f3 id
  replace bn6 := bn6.fr f3 id
  refine drw_intro fun w4 f4 z4 => ?_
  replace fr := fr.trans f4 fun _ h => h.elim
  replace hs := hs.fr0 f4
  replace ht := ht.fr0 f4
  replace bn5 := bn5.fr f4 id
  replace bn6 := bn6.fr f4 id
  replace bn7 := bn7.fr f4 id
  refine load_int bn5 rfl ?_
  refine load_slice bn5 rfl ?_
  refine load_int bn6 rfl ?_
  refine load_slice bn6 rfl ?_
  refine F49_call (F49_bv (by omega) hs fun b2 q3 w5 hB1 f5 hB1b hB1q => back_ptr ?_)
  replace fr := fr.trans f5 fun _ h => h.elim
  have z5 := f5.size
  replace hs := hs.fr0 f5
  replace ht := ht.fr0 f5
  replace bn5 := bn5.fr f5 id
  replace bn6 := bn6.fr f5 id
  replace bn7 := bn7.fr f5 id
  refine Chk1_iff.2 ⟨by rw [bn6.cell]; rfl, ?_⟩
  refine Chk1_iff.2 ⟨by rw [bn6.cell]; rfl, ?_⟩
  refine F49_call (F49_bv (by omega) ht fun b5 q6 w6 hB4 f6 hB4b hB4q => back_ptr ?_)
  replace fr := fr.trans f6 fun _ h => h.elim
  have z6 := f6.size
  replace ht := ht.fr0 f6
  replace hB1 := hB1.fr f6 id id
  replace bn5 := bn5.fr f6 id
  replace bn6 := bn6.fr f6 id
  replace bn7 := bn7.fr f6 id
  refine Chk1_iff.2 ⟨by rw [bn5.cell]; rfl, ?_⟩
  refine Chk1_iff.2 ⟨by rw [bn5.cell]; rfl, ?_⟩
  refine F72_call (F72_spec hB1 hB4 (by omega) (by omega) fun b8 q9 w7 hB7 f7 hB7b hB7q => back_ptr ?_)
  replace fr := fr.trans f7 fun _ h => h.elim
  have z7 := f7.size
  replace hB1 := hB1.fr f7 id id
  replace hB4 := hB4.fr f7 id id
  replace bn5 := bn5.fr f7 id
  replace bn6 := bn6.fr f7 id
  replace bn7 := bn7.fr f7 id
  refine Chk1_iff.2 ⟨by rw [bn6.cell]; rfl, ?_⟩
  refine Chk1_iff.2 ⟨by rw [bn6.cell]; rfl, ?_⟩
  refine Chk1_iff.2 ⟨by rw [bn5.cell]; rfl, ?_⟩
  refine Chk1_iff.2 ⟨by rw [bn5.cell]; rfl, ?_⟩
  refine F51_call (F51_bv (by omega) hB7 fun p11 c12 w8 hs10 f8 => back_bits ?_)
  replace fr := fr.trans f8 fun _ h => h.elim
  have z8 := f8.size
  replace hB7 := hB7.fr f8 id id
  replace bn5 := bn5.fr f8 id
  replace bn6 := bn6.fr f8 id
  replace bn7 := bn7.fr f8 id
  refine Chk1_iff.2 ⟨by rw [bn6.cell]; rfl, ?_⟩
  refine Chk1_iff.2 ⟨by rw [bn6.cell]; rfl, ?_⟩
  refine Chk1_iff.2 ⟨by rw [bn5.cell]; rfl, ?_⟩
  refine Chk1_iff.2 ⟨by rw [bn5.cell]; rfl, ?_⟩
  refine store_intro bn7 (by simp) rfl fun w9 bn7 f9 z9 => ?_
  replace fr := fr.trans f9 fun x (e : x = n7) => .inr (by omega)
  replace hs10 := hs10.st f9 (by omega)
  replace bn5 := bn5.fr f9 (show ¬ n5 = n7 by omega)
  replace bn6 := bn6.fr f9 (show ¬ n6 = n7 by omega)
  refine store_intro bn7 (by simp) rfl fun w10 bn7 f10 z10 => ?_
  replace fr := fr.trans f10 fun x (e : x = n7) => .inr (by omega)
  replace hs10 := hs10.st f10 (by omega)
  replace bn5 := bn5.fr f10 (show ¬ n5 = n7 by omega)
  replace bn6 := bn6.fr f10 (show ¬ n6 = n7 by omega)
  refine load_int bn7 rfl ?_
  refine load_slice bn7 rfl ?_
  exact hk _ _ _ (hs10.widen (by omega) (by omega)) fr
/-- BSDifference. -/
theorem C36 {n c lo hi : Nat} {p : Option Addr} {f : Nat → Bool} {m d lo2 hi2 : Nat} {q : Option Addr} {g : Nat → Bool} {k : Value → W} {w : World} (hn : n < 524288) (hs : BV w lo hi n p f) (hm : m < 524288) (ht : BV w lo2 hi2 m q g)
    (hk : ∀ p' c' w', BV w' w.heap.size w'.heap.size n p' (fun j => f j && !g j) → Fr (fun _ => False) w w' → k (.agg #[.int .u64 n, .slice p' (L n (fun j => f j && !g j)).length c']) w') : F36 k n p (L n f).length c m q (L m g).length d w := by
  unfold F36
  refine new_intro fun n5 w1 e1 bn5 f1 z1 => ?_
  have fr := f1
  replace hs := hs.fr0 f1
  replace ht := ht.fr0 f1
  refine new_intro fun n6 w2 e2 bn6 f2 z2 => ?_
  replace fr := fr.trans f2 fun _ h => h.elim
  replace hs := hs.fr0 f2
  replace ht := ht.fr0 f2
  replace bn5 := bn5.fr f2 id
  refine new_intro fun n7 w3 e3 bn7 f3 z3 => ?_
  replace fr := fr.trans f3 fun _ h => h.elim
  replace hs := hs.fr0 f3
  replace ht := ht.fr0 f3
  replace bn5 := bn5.fr f3 id
  replace bn6 := bn6.fr f3 id
  refine drw_intro fun w4 f4 z4 => ?_
  replace fr := fr.trans f4 fun _ h => h.elim
  replace hs := hs.fr0 f4
  replace ht := ht.fr0 f4
  replace bn5 := bn5.fr f4 id
  replace bn6 := bn6.fr f4 id
  replace bn7 := bn7.fr f4 id
  refine load_int bn5 rfl ?_
  refine load_slice bn5 rfl ?_
  refine load_int bn6 rfl ?_
  refine load_slice bn6 rfl ?_
  refine F49_call (F49_bv (by omega) hs fun b2 q3 w5 hB1 f5 hB1b hB1q => back_ptr ?_)
  replace fr := fr.trans f5 fun _ h => h.elim
  have z5 := f5.size
  replace hs := hs.fr0 f5
  replace ht := ht.fr0 f5
  replace bn5 := bn5.fr f5 id
  replace bn6 := bn6.fr f5 id
  replace bn7 := bn7.fr f5 id
  refine Chk1_iff.2 ⟨by rw [bn6.cell]; rfl, ?_⟩
  refine Chk1_iff.2 ⟨by rw [bn6.cell]; rfl, ?_⟩
  refine F49_call (F49_bv (by omega) ht fun b5 q6 w6 hB4 f6 hB4b hB4q => back_ptr ?_)
  replace fr := fr.trans f6 fun _ h => h.elim
  have z6 := f6.size
  replace ht := ht.fr0 f6
  replace hB1 := hB1.fr f6 id id
  replace bn5 := bn5.fr f6 id
  replace bn6 := bn6.fr f6 id
  replace bn7 := bn7.fr f6 id
  refine Chk1_iff.2 ⟨by rw [bn5.cell]; rfl, ?_⟩
  refine Chk1_iff.2 ⟨by rw [bn5.cell]; rfl, ?_⟩
  refine F73_call (F73_spec hB1 hB4 (by omega) (by omega) fun b8 q9 w7 hB7 f7 hB7b hB7q => back_ptr ?_)
  replace fr := fr.trans f7 fun _ h => h.elim
  have z7 := f7.size
  replace hB1 := hB1.fr f7 id id
  replace hB4 := hB4.fr f7 id id
  replace bn5 := bn5.fr f7 id
  replace bn6 := bn6.fr f7 id
  replace bn7 := bn7.fr f7 id
  refine Chk1_iff.2 ⟨by rw [bn6.cell]; rfl, ?_⟩
  refine Chk1_iff.2 ⟨by rw [bn6.cell]; rfl, ?_⟩
  refine Chk1_iff.2 ⟨by rw [bn5.cell]; rfl, ?_⟩
  refine Chk1_iff.2 ⟨by rw [bn5.cell]; rfl, ?_⟩
  refine F51_call (F51_bv (by omega) hB7 fun p11 c12 w8 hs10 f8 => back_bits ?_)
  replace fr := fr.trans f8 fun _ h => h.elim
  have z8 := f8.size
  replace hB7 := hB7.fr f8 id id
  replace bn5 := bn5.fr f8 id
  replace bn6 := bn6.fr f8 id
  replace bn7 := bn7.fr f8 id
  refine Chk1_iff.2 ⟨by rw [bn6.cell]; rfl, ?_⟩
  refine Chk1_iff.2 ⟨by rw [bn6.cell]; rfl, ?_⟩
  refine Chk1_iff.2 ⟨by rw [bn5.cell]; rfl, ?_⟩
  refine Chk1_iff.2 ⟨by rw [bn5.cell]; rfl, ?_⟩
  refine store_intro bn7 (by simp) rfl fun w9 bn7 f9 z9 => ?_
  replace fr := fr.trans f9 fun x (e : x = n7) => .inr (by omega)
  replace hs10 := hs10.st f9 (by omega)
  replace bn5 := bn5.fr f9 (show ¬ n5 = n7 by omega)
  replace bn6 := bn6.fr f9 (show ¬ n6 = n7 by omega)
  refine store_intro bn7 (by simp) rfl fun w10 bn7 f10 z10 => ?_
  replace fr := fr.trans f10 fun x (e : x = n7) => .inr (by omega)
  replace hs10 := hs10.st f10 (by omega)
  replace bn5 := bn5.fr f10 (show ¬ n5 = n7 by omega)
  replace bn6 := bn6.fr f10 (show ¬ n6 = n7 by omega)
  refine load_int bn7 rfl ?_
  refine load_slice bn7 rfl ?_
  exact hk _ _ _ (hs10.widen (by omega) (by omega)) fr
end Go.Proofs.Ytopdlfecfgimpaa.E
