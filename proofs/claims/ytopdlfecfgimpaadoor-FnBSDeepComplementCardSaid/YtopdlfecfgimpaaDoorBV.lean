/-
  Bit lists with the bounds of where they lie (BV), and the thin package's functions on them. The straight parts were printed by this session's own program aw.py.
-/
import Derived.Test.YtopdlfecfgimpaaDoorDiff
namespace Go.Proofs.YtopdlfecfgimpaaDoor.E
open Go
set_option linter.unusedSimpArgs false
set_option linter.unusedVariables false
set_option maxRecDepth 100000

theorem set_lt' {n i : Nat} {f : Nat → Bool} (hf : ∀ j, f j = true → j < n) : ∀ j, (f j || decide (j = i)) = true → j < max n (i + 1) := by
  intro j hj
  simp only [Bool.or_eq_true, decide_eq_true_eq] at hj
  rcases hj with h | h
  · have := hf j h; omega
  · omega
theorem Sees.frS {S : Nat → Prop} {w w' : World} {p : Option Addr} {ns : List Nat} (h : Sees w p ns) (f : Fr S w w') (hS : ∀ b, bl p b → ¬ S b) : Sees w' p ns := by
  refine h.imp id ?_
  rintro ⟨a, rfl, hb, hc⟩
  exact ⟨a, rfl, Nat.lt_of_lt_of_le hb f.size, fun i hi => by rw [f.cell (by rw [add_block]; exact hb) (by rw [add_block]; exact hS _ ⟨_, rfl, rfl⟩)]; exact hc i hi⟩
/-- p leads to the list of the places where f holds, below n; it lies in a block from lo to hi. -/
structure BV (w : World) (lo hi n : Nat) (p : Option Addr) (f : Nat → Bool) : Prop where
  sees : Sees w p (L n f)
  lt : ∀ j, f j = true → j < n
  bd : ∀ x, bl p x → lo ≤ x ∧ x < hi
namespace BV
theorem fr0 {w w' : World} {lo hi n : Nat} {p : Option Addr} {f : Nat → Bool} (h : BV w lo hi n p f) (fr : Fr (fun _ => False) w w') : BV w' lo hi n p f := ⟨h.sees.fr0 fr, h.lt, h.bd⟩
theorem st {w w' : World} {lo hi n b : Nat} {p : Option Addr} {f : Nat → Bool} (h : BV w lo hi n p f) (fr : Fr (fun x => x = b) w w') (hb : b < lo ∨ hi ≤ b) : BV w' lo hi n p f :=
  ⟨h.sees.frS fr fun x hx (e : x = b) => by have := h.bd x hx; omega, h.lt, h.bd⟩
theorem widen {w : World} {lo hi lo' hi' n : Nat} {p : Option Addr} {f : Nat → Bool} (h : BV w lo hi n p f) (h1 : lo' ≤ lo) (h2 : hi ≤ hi') : BV w lo' hi' n p f :=
  ⟨h.sees, h.lt, fun x hx => by have := h.bd x hx; omega⟩
end BV
theorem F29_bv {n c lo hi : Nat} {p : Option Addr} {f : Nat → Bool} {k : Value → W} {w : World} (hn : n < 1048576) (hs : BV w lo hi n p f)
    (hk : ∀ b q w', BSet w' b q n f → Fr (fun _ => False) w w' → w.heap.size ≤ b → w.heap.size ≤ q → k (.pointer (some ⟨b, 0, none⟩)) w') : F29 k n p (L n f).length c w := F29_rep hn hs.sees hs.lt hk
theorem F31_bv {b q n : Nat} {f : Nat → Bool} {k : Value → W} {w : World} (hn : n < 1048576) (h : BSet w b q n f)
    (hk : ∀ p c w', BV w' w.heap.size w'.heap.size n p f → Fr (fun _ => False) w w' → k (.agg #[.int .u64 n, .slice p (L n f).length c]) w') : F31 k (some ⟨b, 0, none⟩) w :=
  F31_spec hn h fun p c w' own fr hp => hk p c w' ⟨own.sees, h.2, fun x hx => ⟨hp x hx, own.lt hx⟩⟩ fr
theorem C9 {x l c : Nat} {p : Option Addr} {k : Value → W} {w : World} (hx : x < 18446744073709551616) (hr : Reads w p l) (hl : l ≤ 2147483647)
    (hk : ∀ n f p c w', n ≤ 400 → BV w' w.heap.size w'.heap.size n p f → Fr (fun _ => False) w w' → k (.agg #[.int .u64 (n : Nat), .slice p (L n f).length c]) w') : F9 k x p l c w :=
  F9_bd hx hr hl fun f p c w' h1 h2 h3 h4 => hk (x % 401) f p c w' (by omega) ⟨h2, h1, h3⟩ h4
/-- BSSet. -/
theorem C8 {n c lo hi : Nat} {p : Option Addr} {f : Nat → Bool} {i : Nat} {k : Value → W} {w : World} (hn : n < 524288) (hs : BV w lo hi n p f) (hi' : i < 524288)
    (hk : ∀ p' c' w', BV w' w.heap.size w'.heap.size (max n (i + 1)) p' (fun j => f j || decide (j = i)) → Fr (fun _ => False) w w' → k (.agg #[.int .u64 (max n (i + 1) : Nat), .slice p' (L (max n (i + 1)) (fun j => f j || decide (j = i))).length c']) w') : F8 k n p (L n f).length c i w := by
  unfold F8
  refine new_intro fun n4 w1 e1 bn4 f1 z1 => ?_
  have fr := f1
  replace hs := hs.fr0 f1
  refine new_intro fun n5 w2 e2 bn5 f2 z2 => ?_
  replace fr := fr.trans f2 fun _ h => h.elim
  replace hs := hs.fr0 f2
  replace bn4 := bn4.fr f2 id
  refine load_int bn4 rfl ?_
  refine load_slice bn4 rfl ?_
  refine F29_call (F29_bv (by omega) hs fun b2 q3 w3 hB1 f3 hB1b hB1q => back_ptr ?_)
  replace fr := fr.trans f3 fun _ h => h.elim
  have z3 := f3.size
  replace hs := hs.fr0 f3
  replace bn4 := bn4.fr f3 id
  replace bn5 := bn5.fr f3 id
  refine F30_call (F30_spec hB1 (by omega) fun q4 w4 hB1 f4 hq4 => back_ptr ?_)
  replace fr := fr.trans f4 fun x e => by rcases e with rfl | rfl <;> exact .inr (by omega)
  have z4 := f4.size
  replace bn4 := bn4.fr f4 (by rintro (e | e) <;> omega)
  replace bn5 := bn5.fr f4 (by rintro (e | e) <;> omega)
  refine F31_call (F31_bv (by omega) hB1 fun p6 c7 w5 hs5 f5 => back_bits ?_)
  replace fr := fr.trans f5 fun _ h => h.elim
  have z5 := f5.size
  replace hB1 := hB1.fr f5 id id
  replace bn4 := bn4.fr f5 id
  replace bn5 := bn5.fr f5 id
  refine store_intro bn5 (by simp) rfl fun w6 bn5 f6 z6 => ?_
  replace fr := fr.trans f6 fun x (e : x = n5) => .inr (by omega)
  replace hs5 := hs5.st f6 (by omega)
  replace bn4 := bn4.fr f6 (show ¬ n4 = n5 by omega)
  refine store_intro bn5 (by simp) rfl fun w7 bn5 f7 z7 => ?_
  replace fr := fr.trans f7 fun x (e : x = n5) => .inr (by omega)
  replace hs5 := hs5.st f7 (by omega)
  replace bn4 := bn4.fr f7 (show ¬ n4 = n5 by omega)
  refine load_int bn5 rfl ?_
  refine load_slice bn5 rfl ?_
  exact hk _ _ _ (hs5.widen (by omega) (by omega)) fr
/-- BSTest. -/
theorem C16 {n c lo hi : Nat} {p : Option Addr} {f : Nat → Bool} {i : Nat} {k : Value → W} {w : World} (hn : n < 524288) (hs : BV w lo hi n p f) (hi' : i < 524288)
    (hk : ∀ w', Fr (fun _ => False) w w' → k (.bool (f i)) w') : F16 k n p (L n f).length c i w := by
  unfold F16
  refine new_intro fun n4 w1 e1 bn4 f1 z1 => ?_
  have fr := f1
  replace hs := hs.fr0 f1
  refine load_int bn4 rfl ?_
  refine load_slice bn4 rfl ?_
  refine F29_call (F29_bv (by omega) hs fun b2 q3 w2 hB1 f2 hB1b hB1q => back_ptr ?_)
  replace fr := fr.trans f2 fun _ h => h.elim
  have z2 := f2.size
  replace hs := hs.fr0 f2
  replace bn4 := bn4.fr f2 id
  refine F39_call (Test_spec hB1 (by omega) fun w3 f3 => back_bool ?_)
  replace fr := fr.trans f3 fun _ h => h.elim
  have z3 := f3.size
  replace hB1 := hB1.fr f3 id id
  replace bn4 := bn4.fr f3 id
  exact hk _ fr
/-- BSLen. -/
theorem C23 {n c lo hi : Nat} {p : Option Addr} {f : Nat → Bool} {k : Value → W} {w : World} (hn : n < 524288) (hs : BV w lo hi n p f)
    (hk : ∀ w', Fr (fun _ => False) w w' → k (.int .u64 n) w') : F23 k n p (L n f).length c w := by
  unfold F23
  refine new_intro fun n3 w1 e1 bn3 f1 z1 => ?_
  have fr := f1
  replace hs := hs.fr0 f1
  refine load_int bn3 rfl ?_
  refine load_slice bn3 rfl ?_
  refine F29_call (F29_bv (by omega) hs fun b2 q3 w2 hB1 f2 hB1b hB1q => back_ptr ?_)
  replace fr := fr.trans f2 fun _ h => h.elim
  have z2 := f2.size
  replace hs := hs.fr0 f2
  replace bn3 := bn3.fr f2 id
  refine F44_call (Len_spec hB1 (back_int ?_))
  exact hk _ fr
/-- BSSetAll. -/
theorem C26 {n c lo hi : Nat} {p : Option Addr} {f : Nat → Bool} {k : Value → W} {w : World} (hn : n < 524288) (hs : BV w lo hi n p f)
    (hk : ∀ p' c' w', BV w' w.heap.size w'.heap.size n p' (fun j => decide (j < n)) → Fr (fun _ => False) w w' → k (.agg #[.int .u64 n, .slice p' (L n (fun j => decide (j < n))).length c']) w') : F26 k n p (L n f).length c w := by
  unfold F26
  refine new_intro fun n3 w1 e1 bn3 f1 z1 => ?_
  have fr := f1
  replace hs := hs.fr0 f1
  refine new_intro fun n4 w2 e2 bn4 f2 z2 => ?_
  replace fr := fr.trans f2 fun _ h => h.elim
  replace hs := hs.fr0 f2
  replace bn3 := bn3.fr f2 id
  refine load_int bn3 rfl ?_
  refine load_slice bn3 rfl ?_
  refine F29_call (F29_bv (by omega) hs fun b2 q3 w3 hB1 f3 hB1b hB1q => back_ptr ?_)
  replace fr := fr.trans f3 fun _ h => h.elim
  have z3 := f3.size
  replace hs := hs.fr0 f3
  replace bn3 := bn3.fr f3 id
  replace bn4 := bn4.fr f3 id
  refine F47_call (F47_spec hB1 (by omega) fun w4 hB1 f4 => back_ptr ?_)
  replace fr := fr.trans f4 fun x e => by rcases e with rfl | rfl <;> exact .inr (by omega)
  have z4 := f4.size
  replace bn3 := bn3.fr f4 (by rintro (e | e) <;> omega)
  replace bn4 := bn4.fr f4 (by rintro (e | e) <;> omega)
  refine F31_call (F31_bv (by omega) hB1 fun p5 c6 w5 hs4 f5 => back_bits ?_)
  replace fr := fr.trans f5 fun _ h => h.elim
  have z5 := f5.size
  replace hB1 := hB1.fr f5 id id
  replace bn3 := bn3.fr f5 id
  replace bn4 := bn4.fr f5 id
  refine store_intro bn4 (by simp) rfl fun w6 bn4 f6 z6 => ?_
  replace fr := fr.trans f6 fun x (e : x = n4) => .inr (by omega)
  replace hs4 := hs4.st f6 (by omega)
  replace bn3 := bn3.fr f6 (show ¬ n3 = n4 by omega)
  refine store_intro bn4 (by simp) rfl fun w7 bn4 f7 z7 => ?_
  replace fr := fr.trans f7 fun x (e : x = n4) => .inr (by omega)
  replace hs4 := hs4.st f7 (by omega)
  replace bn3 := bn3.fr f7 (show ¬ n3 = n4 by omega)
  refine load_int bn4 rfl ?_
  refine load_slice bn4 rfl ?_
  exact hk _ _ _ (hs4.widen (by omega) (by omega)) fr
/-- BSIntersection. -/
theorem C28 {n c lo hi : Nat} {p : Option Addr} {f : Nat → Bool} {m d lo2 hi2 : Nat} {q : Option Addr} {g : Nat → Bool} {k : Value → W} {w : World} (hn : n < 524288) (hs : BV w lo hi n p f) (hm : m < 524288) (ht : BV w lo2 hi2 m q g)
    (hk : ∀ p' c' w', BV w' w.heap.size w'.heap.size (min n m) p' (fun j => f j && g j) → Fr (fun _ => False) w w' → k (.agg #[.int .u64 (min n m : Nat), .slice p' (L (min n m) (fun j => f j && g j)).length c']) w') : F28 k n p (L n f).length c m q (L m g).length d w := by
  unfold F28
  refine new_intro fun n5 w1 e1 bn5 f1 z1 => ?_
  have fr := f1
  replace hs := hs.fr0 f1
  replace ht := ht.fr0 f1
  refine new_intro fun n6 w2 e2 bn6 f2 z2 => ?_
  replace fr := fr.trans f2 fun _ h => h.elim
  replace hs := hs.fr0 f2
  replace ht := ht.fr0 f2
  replace bn5 := bn5.fr f2 id
  refine new_intro fun n7 w3 e3 bn7 f3 z3 => ?_
  replace fr := fr.trans f3 fun _ h => h.elim
  replace hs := hs.fr0 f3
  replace ht := ht.fr0 f3
  replace bn5 := bn5.fr f3 id
  replace bn6 := bn6.fr f3 id
  refine drw_intro fun w4 f4 z4 => ?_
  replace fr := fr.trans f4 fun _ h => h.elim
  replace hs := hs.fr0 f4
  replace ht := ht.fr0 f4
  replace bn5 := bn5.fr f4 id
  replace bn6 := bn6.fr f4 id
  replace bn7 := bn7.fr f4 id
  refine load_int bn5 rfl ?_
  refine load_slice bn5 rfl ?_
  refine load_int bn6 rfl ?_
  refine load_slice bn6 rfl ?_
  refine F29_call (F29_bv (by omega) hs fun b2 q3 w5 hB1 f5 hB1b hB1q => back_ptr ?_)
  replace fr := fr.trans f5 fun _ h => h.elim
  have z5 := f5.size
  replace hs := hs.fr0 f5
  replace ht := ht.fr0 f5
  replace bn5 := bn5.fr f5 id
  replace bn6 := bn6.fr f5 id
  replace bn7 := bn7.fr f5 id
  refine Chk1_iff.2 ⟨by rw [bn6.cell]; rfl, ?_⟩
  refine Chk1_iff.2 ⟨by rw [bn6.cell]; rfl, ?_⟩
  refine F29_call (F29_bv (by omega) ht fun b5 q6 w6 hB4 f6 hB4b hB4q => back_ptr ?_)
  replace fr := fr.trans f6 fun _ h => h.elim
  have z6 := f6.size
  replace ht := ht.fr0 f6
  replace hB1 := hB1.fr f6 id id
  replace bn5 := bn5.fr f6 id
  replace bn6 := bn6.fr f6 id
  replace bn7 := bn7.fr f6 id
  refine Chk1_iff.2 ⟨by rw [bn5.cell]; rfl, ?_⟩
  refine Chk1_iff.2 ⟨by rw [bn5.cell]; rfl, ?_⟩
  refine F49_call (F49_spec hB1 hB4 (by omega) (by omega) fun b8 q9 w7 hB7 f7 hB7b hB7q => back_ptr ?_)
  replace fr := fr.trans f7 fun _ h => h.elim
  have z7 := f7.size
  replace hB1 := hB1.fr f7 id id
  replace hB4 := hB4.fr f7 id id
  replace bn5 := bn5.fr f7 id
  replace bn6 := bn6.fr f7 id
  replace bn7 := bn7.fr f7 id
  refine Chk1_iff.2 ⟨by rw [bn6.cell]; rfl, ?_⟩
  refine Chk1_iff.2 ⟨by rw [bn6.cell]; rfl, ?_⟩
  refine Chk1_iff.2 ⟨by rw [bn5.cell]; rfl, ?_⟩
  refine Chk1_iff.2 ⟨by rw [bn5.cell]; rfl, ?_⟩
  refine F31_call (F31_bv (by omega) hB7 fun p11 c12 w8 hs10 f8 => back_bits ?_)
  replace fr := fr.trans f8 fun _ h => h.elim
  have z8 := f8.size
  replace hB7 := hB7.fr f8 id id
  replace bn5 := bn5.fr f8 id
  replace bn6 := bn6.fr f8 id
  replace bn7 := bn7.fr f8 id
  refine Chk1_iff.2 ⟨by rw [bn6.cell]; rfl, ?_⟩
  refine Chk1_iff.2 ⟨by rw [bn6.cell]; rfl, ?_⟩
  refine Chk1_iff.2 ⟨by rw [bn5.cell]; rfl, ?_⟩
  refine Chk1_iff.2 ⟨by rw [bn5.cell]; rfl, ?_⟩
  refine store_intro bn7 (by simp) rfl fun w9 bn7 f9 z9 => ?_
  replace fr := fr.trans f9 fun x (e : x = n7) => .inr (by omega)
  replace hs10 := hs10.st f9 (by omega)
  replace bn5 := bn5.fr f9 (show ¬ n5 = n7 by omega)
  replace bn6 := bn6.fr f9 (show ¬ n6 = n7 by omega)
  refine store_intro bn7 (by simp) rfl fun w10 bn7 f10 z10 => ?_
  replace fr := fr.trans f10 fun x (e : x = n7) => .inr (by omega)
  replace hs10 := hs10.st f10 (by omega)
  replace bn5 := bn5.fr f10 (show ¬ n5 = n7 by omega)
  replace bn6 := bn6.fr f10 (show ¬ n6 = n7 by omega)
  refine load_int bn7 rfl ?_
  refine load_slice bn7 rfl ?_
  exact hk _ _ _ (hs10.widen (by omega) (by omega)) fr
/-- BSRank. -/
theorem C19 {n c lo hi : Nat} {p : Option Addr} {f : Nat → Bool} {i : Nat} {k : Value → W} {w : World} (hn : n < 524288) (hs : BV w lo hi n p f) (hi' : i < 524288)
    (hk : ∀ w', Fr (fun _ => False) w w' → k (.int .u64 (cnt (i + 1) f)) w') : F19 k n p (L n f).length c i w := by
  unfold F19
  refine new_intro fun n4 w1 e1 bn4 f1 z1 => ?_
  have fr := f1
  replace hs := hs.fr0 f1
  refine load_int bn4 rfl ?_
  refine load_slice bn4 rfl ?_
  refine F29_call (F29_bv (by omega) hs fun b2 q3 w2 hB1 f2 hB1b hB1q => back_ptr ?_)
  replace fr := fr.trans f2 fun _ h => h.elim
  have z2 := f2.size
  replace hs := hs.fr0 f2
  replace bn4 := bn4.fr f2 id
  refine F41_call (F41_spec hB1 (by omega) (back_int ?_))
  exact hk _ fr
/-- BSComplement. -/
theorem C21 {n c lo hi : Nat} {p : Option Addr} {f : Nat → Bool} {k : Value → W} {w : World} (hn : n < 524288) (hs : BV w lo hi n p f)
    (hk : ∀ p' c' w', BV w' w.heap.size w'.heap.size n p' (fun j => decide (j < n) && !f j) → Fr (fun _ => False) w w' → k (.agg #[.int .u64 n, .slice p' (L n (fun j => decide (j < n) && !f j)).length c']) w') : F21 k n p (L n f).length c w := by
  unfold F21
  refine new_intro fun n3 w1 e1 bn3 f1 z1 => ?_
  have fr := f1
  replace hs := hs.fr0 f1
  refine new_intro fun n4 w2 e2 bn4 f2 z2 => ?_
  replace fr := fr.trans f2 fun _ h => h.elim
  replace hs := hs.fr0 f2
  replace bn3 := bn3.fr f2 id
  refine load_int bn3 rfl ?_
  refine load_slice bn3 rfl ?_
  refine F29_call (F29_bv (by omega) hs fun b2 q3 w3 hB1 f3 hB1b hB1q => back_ptr ?_)
  replace fr := fr.trans f3 fun _ h => h.elim
  have z3 := f3.size
  replace hs := hs.fr0 f3
  replace bn3 := bn3.fr f3 id
  replace bn4 := bn4.fr f3 id
  refine F43_call (F43_spec hB1 (by omega) fun b5 q6 w4 hB4 f4 hB4b hB4q => back_ptr ?_)
  replace fr := fr.trans f4 fun _ h => h.elim
  have z4 := f4.size
  replace hB1 := hB1.fr f4 id id
  replace bn3 := bn3.fr f4 id
  replace bn4 := bn4.fr f4 id
  refine F31_call (F31_bv (by omega) hB4 fun p8 c9 w5 hs7 f5 => back_bits ?_)
  replace fr := fr.trans f5 fun _ h => h.elim
  have z5 := f5.size
  replace hB4 := hB4.fr f5 id id
  replace bn3 := bn3.fr f5 id
  replace bn4 := bn4.fr f5 id
  refine store_intro bn4 (by simp) rfl fun w6 bn4 f6 z6 => ?_
  replace fr := fr.trans f6 fun x (e : x = n4) => .inr (by omega)
  replace hs7 := hs7.st f6 (by omega)
  replace bn3 := bn3.fr f6 (show ¬ n3 = n4 by omega)
  refine store_intro bn4 (by simp) rfl fun w7 bn4 f7 z7 => ?_
  replace fr := fr.trans f7 fun x (e : x = n4) => .inr (by omega)
  replace hs7 := hs7.st f7 (by omega)
  replace bn3 := bn3.fr f7 (show ¬ n3 = n4 by omega)
  refine load_int bn4 rfl ?_
  refine load_slice bn4 rfl ?_
  exact hk _ _ _ (hs7.widen (by omega) (by omega)) fr
/-- BSIsSuperSet. -/
theorem C20 {n c lo hi : Nat} {p : Option Addr} {f : Nat → Bool} {m d lo2 hi2 : Nat} {q : Option Addr} {g : Nat → Bool} {k : Value → W} {w : World} (hn : n < 524288) (hs : BV w lo hi n p f) (hm : m < 524288) (ht : BV w lo2 hi2 m q g)
    (hk : ∀ (r : Bool) w', (r = true ↔ ∀ j, g j = true → f j = true) → Fr (fun _ => False) w w' → k (.bool r) w') : F20 k n p (L n f).length c m q (L m g).length d w := by
  unfold F20
  refine new_intro fun n5 w1 e1 bn5 f1 z1 => ?_
  have fr := f1
  replace hs := hs.fr0 f1
  replace ht := ht.fr0 f1
  refine new_intro fun n6 w2 e2 bn6 f2 z2 => ?_
  replace fr := fr.trans f2 fun _ h => h.elim
  replace hs := hs.fr0 f2
  replace ht := ht.fr0 f2
  replace bn5 := bn5.fr f2 id
  refine drw_intro fun w3 f3 z3 => ?_
  replace fr := fr.trans f3 fun _ h => h.elim
  replace hs := hs.fr0 f3
  replace ht := ht.fr0 f3
  replace bn5 := bn5.fr f3 id
  replace bn6 := bn6.fr f3 id
  refine load_int bn5 rfl ?_
  refine load_slice bn5 rfl ?_
  refine load_int bn6 rfl ?_
  refine load_slice bn6 rfl ?_
  refine F29_call (F29_bv (by omega) hs fun b2 q3 w4 hB1 f4 hB1b hB1q => back_ptr ?_)
  replace fr := fr.trans f4 fun _ h => h.elim
  have z4 := f4.size
  replace hs := hs.fr0 f4
  replace ht := ht.fr0 f4
  replace bn5 := bn5.fr f4 id
  replace bn6 := bn6.fr f4 id
  refine Chk1_iff.2 ⟨by rw [bn6.cell]; rfl, ?_⟩
  refine Chk1_iff.2 ⟨by rw [bn6.cell]; rfl, ?_⟩
  refine F29_call (F29_bv (by omega) ht fun b5 q6 w5 hB4 f5 hB4b hB4q => back_ptr ?_)
  replace fr := fr.trans f5 fun _ h => h.elim
  have z5 := f5.size
  replace ht := ht.fr0 f5
  replace hB1 := hB1.fr f5 id id
  replace bn5 := bn5.fr f5 id
  replace bn6 := bn6.fr f5 id
  refine Chk1_iff.2 ⟨by rw [bn5.cell]; rfl, ?_⟩
  refine Chk1_iff.2 ⟨by rw [bn5.cell]; rfl, ?_⟩
  refine F42_call (F42_spec hB1 hB4 (by omega) (by omega) fun r7 hr7 => back_bool ?_)
  refine Chk1_iff.2 ⟨by rw [bn6.cell]; rfl, ?_⟩
  refine Chk1_iff.2 ⟨by rw [bn6.cell]; rfl, ?_⟩
  refine Chk1_iff.2 ⟨by rw [bn5.cell]; rfl, ?_⟩
  refine Chk1_iff.2 ⟨by rw [bn5.cell]; rfl, ?_⟩
  exact hk _ _ hr7 fr
end Go.Proofs.YtopdlfecfgimpaaDoor.E
