/-
  The thin package's functions on bit lists that ask the table of TrailingZeros64, and some more.
-/
import Derived.Test.YtopdlfecfgimpaaDoorTz3
namespace Go.Proofs.YtopdlfecfgimpaaDoor.E
open Go
set_option linter.unusedSimpArgs false
set_option linter.unusedVariables false
set_option maxRecDepth 100000
set_option maxHeartbeats 2000000

/-- What NextSet says. -/
def Next (f : Nat → Bool) (i m : Nat) (r : Bool) : Prop := (r = true ∧ i ≤ m ∧ f m = true ∧ ∀ j, i ≤ j → j < m → f j = false) ∨ (r = false ∧ m = 0 ∧ ∀ j, i ≤ j → f j = false)
/-- What NextClear says. -/
def NextC (f : Nat → Bool) (n i m : Nat) (r : Bool) : Prop := (r = true ∧ i ≤ m ∧ m < n ∧ f m = false ∧ ∀ j, i ≤ j → j < m → f j = true) ∨ (r = false ∧ m = 0 ∧ ∀ j, i ≤ j → j < n → f j = true)
theorem Next.same {f g : Nat → Bool} {i m m' : Nat} {r r' : Bool} (h : Next f i m r) (h' : Next g i m' r') (e : ∀ j, i ≤ j → f j = g j) : r = r' ∧ m = m' := by
  rcases h with ⟨rfl, h1, h2, h3⟩ | ⟨rfl, rfl, h1⟩ <;> rcases h' with ⟨rfl, g1, g2, g3⟩ | ⟨rfl, rfl, g1⟩
  · refine ⟨rfl, ?_⟩
    rcases Nat.lt_trichotomy m m' with h | h | h
    · have := g3 m h1 h; rw [← e m h1, h2] at this; cases this
    · exact h
    · have := h3 m' g1 h; rw [e m' g1, g2] at this; cases this
  · have := g1 m h1; rw [← e m h1, h2] at this; cases this
  · have := h1 m' g1; rw [e m' g1, g2] at this; cases this
  · exact ⟨rfl, rfl⟩
theorem C10 {n c lo hi i : Nat} {p : Option Addr} {f : Nat → Bool} {k : Value → W} {w : World} (hn : n < 524288) (hs : BV w lo hi n p f) (hT : Tab w) (hi' : i < 524288)
    (hk : ∀ m r w', Next f i m r → Fr (fun _ => False) w w' → k (.tuple #[.int .u64 (m : Nat), .bool r]) w') : F10 k n p (L n f).length c i w := by
  unfold F10
  refine new_intro fun n4 w1 e1 b4 f1 z1 => ?_
  replace hs := hs.fr0 f1
  replace hT := hT.fr0 f1
  refine load_int b4 rfl ?_
  refine load_slice b4 rfl ?_
  refine F29_call (F29_bv (by omega) hs fun b q w2 hB f2 zb zq => back_ptr ?_)
  replace hT := hT.fr0 f2
  have f12 := f1.trans f2 fun _ h => h.elim
  refine F33_call (F33_spec hB hT (by omega) (by omega) (fun m w3 h1 h2 h3 f3 => back_two (hk m true w3 (.inl ⟨rfl, h1, h2, h3⟩) (f12.trans f3 fun _ h => h.elim))) fun w3 h1 f3 => back_two (hk 0 false w3 (.inr ⟨rfl, rfl, h1⟩) (f12.trans f3 fun _ h => h.elim)))
theorem C14 {n c lo hi i : Nat} {p : Option Addr} {f : Nat → Bool} {k : Value → W} {w : World} (hn : n < 524288) (hs : BV w lo hi n p f) (hT : Tab w) (hi' : i < 524288)
    (hk : ∀ m r w', NextC f n i m r → Fr (fun _ => False) w w' → k (.tuple #[.int .u64 (m : Nat), .bool r]) w') : F14 k n p (L n f).length c i w := by
  unfold F14
  refine new_intro fun n4 w1 e1 b4 f1 z1 => ?_
  replace hs := hs.fr0 f1
  replace hT := hT.fr0 f1
  refine load_int b4 rfl ?_
  refine load_slice b4 rfl ?_
  refine F29_call (F29_bv (by omega) hs fun b q w2 hB f2 zb zq => back_ptr ?_)
  replace hT := hT.fr0 f2
  have f12 := f1.trans f2 fun _ h => h.elim
  refine F37_call (F37_spec hB hT (by omega) (by omega) (fun m w3 h1 h2 h3 h4 f3 => back_two (hk m true w3 (.inl ⟨rfl, h1, h2, h3, h4⟩) (f12.trans f3 fun _ h => h.elim))) fun w3 h1 f3 => back_two (hk 0 false w3 (.inr ⟨rfl, rfl, h1⟩) (f12.trans f3 fun _ h => h.elim)))
theorem C15 {n c lo hi s e : Nat} {p : Option Addr} {f : Nat → Bool} {k : Value → W} {w : World} (hn : n < 524288) (hs : BV w lo hi n p f) (hs' : s < 524288) (he' : e < 524288)
    (hk : ∀ w', Fr (fun _ => False) w w' → k (.int .u64 (cnt e f - cnt s f : Nat)) w') : F15 k n p (L n f).length c s e w := by
  unfold F15
  refine new_intro fun n4 w1 e1 b4 f1 z1 => ?_
  refine load_int b4 rfl ?_
  refine load_slice b4 rfl ?_
  refine F29_call (F29_bv (by omega) (hs.fr0 f1) fun b q w2 hB f2 zb zq => back_ptr ?_)
  refine F38_call (F38_spec hB (by omega) (by omega) (back_int (hk _ (f1.trans f2 fun _ h => h.elim))))
theorem C17 {n c lo hi : Nat} {p : Option Addr} {f : Nat → Bool} {k : Value → W} {w : World} (hn : n < 524288) (hs : BV w lo hi n p f)
    (hk : ∀ n' p' c' w', n' ≤ n → BV w' w.heap.size w'.heap.size n' p' f → Fr (fun _ => False) w w' → k (.agg #[.int .u64 (n' : Nat), .slice p' (L n' f).length c']) w') : F17 k n p (L n f).length c w := by
  unfold F17
  refine new_intro fun n3 w1 e1 b3 f1 z1 => ?_
  refine new_intro fun n4 w2 e2 b4 f2 z2 => ?_
  replace b3 := b3.fr f2 id
  have f12 := f1.trans f2 fun _ h => h.elim
  refine load_int b3 rfl ?_
  refine load_slice b3 rfl ?_
  refine F29_call (F29_bv (by omega) (hs.fr0 f12) fun b q w3 hB f3 zb zq => back_ptr ?_)
  replace b4 := b4.fr f3 id
  have z3 := f3.size
  refine F40_call (F40_spec hB (by omega) fun n' q' w4 hn' hB4 f4 hq' => back_ptr ?_)
  replace b4 := b4.fr f4 (by rintro (e | e) <;> omega)
  have z4 := f4.size
  refine F31_call (F31_bv (by omega) hB4 fun p2 c2 w5 hs5 f5 => back_bits ?_)
  replace b4 := b4.fr f5 id
  have z5 := f5.size
  refine store_intro b4 (by simp) rfl fun w6 b4 f6 z6 => ?_
  replace hs5 := hs5.st f6 (by omega)
  refine store_intro b4 (by simp) rfl fun w7 b4 f7 z7 => ?_
  replace hs5 := hs5.st f7 (by omega)
  refine load_int b4 rfl ?_
  refine load_slice b4 rfl ?_
  refine hk _ _ _ _ hn' (hs5.widen (by omega) (by omega)) (((((f12.trans f3 fun _ h => h.elim).trans f4 ?_).trans f5 fun _ h => h.elim).trans f6 ?_).trans f7 ?_)
  · rintro x (rfl | rfl) <;> exact .inr (by omega)
  all_goals (rintro x rfl; exact .inr (by omega))
theorem C12 {n c lo hi : Nat} {p : Option Addr} {f : Nat → Bool} {k : Value → W} {w : World} (hn : n < 524288) (hs : BV w lo hi n p f) (hT : Tab w)
    (hk : ∀ p' c' w', Sees w' p' (L n f) → Fr (fun _ => False) w w' → k (.slice p' (L n f).length c') w') : F12 k n p (L n f).length c w := by
  unfold F12
  refine new_intro fun n3 w1 e1 b3 f1 z1 => ?_
  replace hT := hT.fr0 f1
  refine load_int b3 rfl ?_
  refine load_slice b3 rfl ?_
  refine F29_call (F29_bv (by omega) (hs.fr0 f1) fun b q w2 hB f2 zb zq => back_ptr ?_)
  replace hT := hT.fr0 f2
  refine F35_call (F35_spec hB (back_int ?_))
  obtain ⟨ii, hi1, hi2, hi3, hi4⟩ := inf22
  have hcl := cnt_le n f
  refine make_intro (P := Go.Proofs.Tryd.prog) (cnt n f) (cnt n f) und23 hi1 hi2 hi3 rfl (by omega) (by omega) (Nat.le_refl _) fun w3 f3 o3 bq z3 => ?_
  have hBl := hB.lt
  have hB3 := hB.fr f3 id id
  have hT3 := hT.fr0 f3
  have hrep : List.replicate (cnt n f) (Value.int .u64 0) = us (List.replicate (cnt n f) 0) := by rw [us_replicate]; rfl
  rw [hrep] at bq
  have h0 := hT.1
  have := F34_spec (k := fun v => Back (.s (.one .slice)) (fun s9p s9l s9c => k (.slice s9p s9l s9c)) (.returned v)) hB3 hT3 (by omega) bq (by simp) ⟨by omega, by omega, by omega⟩ fun c' w4 b4 f4 => back_slice (hk _ _ w4 (.inr ⟨_, rfl, b4.lt, fun i hi => by rw [add_mk, Nat.zero_add, b4.cell, us_get _ _ hi]⟩) (((f1.trans f2 fun _ h => h.elim).trans f3 fun _ h => h.elim).trans f4 fun x e => .inr (by have : x = w2.heap.size := e; have := f1.size; have := f2.size; omega)))
  rw [List.length_replicate] at this
  exact F34_call this
theorem C13 {n c lo hi : Nat} {p : Option Addr} {f : Nat → Bool} {k : Value → W} {w : World} (hn : n < 524288) (hs : BV w lo hi n p f) (hT : Tab w)
    (hk : ∀ p' c' w', Sees w' p' (L n f) → Fr (fun _ => False) w w' → k (.slice p' (L n f).length c') w') : F13 k n p (L n f).length c none 0 0 w := by
  unfold F13
  refine new_intro fun n4 w1 e1 b4 f1 z1 => ?_
  replace hT := hT.fr0 f1
  refine load_int b4 rfl ?_
  refine load_slice b4 rfl ?_
  refine F29_call (F29_bv (by omega) (hs.fr0 f1) fun b q w2 hB f2 zb zq => back_ptr ?_)
  replace hT := hT.fr0 f2
  obtain ⟨ii, hi1, hi2, hi3, hi4⟩ := inf22
  have hr := run_append_owned_none (P := Go.Proofs.Tryd.prog) (w := w2) 0 23 23 22 ii 1 und23 hi1 (.slice none 0 0) 0 [] (World.ownsRow_nil _ _ _ _)
  refine NextT_slice (builtin_append hr) ?_
  refine F36_call (F36_spec hB hT (by omega) fun p' c' w3 own hbl f3 => back_slice (hk _ _ _ own.sees ((f1.trans f2 fun _ h => h.elim).trans f3 fun _ h => h.elim)))
theorem C25 {n c lo hi : Nat} {p : Option Addr} {f : Nat → Bool} {k : Value → W} {w : World} (hn : n < 524288) (hs : BV w lo hi n p f)
    (hk : ∀ w', Fr (fun _ => False) w w' → k (.bool (decide (cnt n f = n))) w') : F25 k n p (L n f).length c w := by
  unfold F25
  refine new_intro fun n4 w1 e1 b4 f1 z1 => ?_
  refine load_int b4 rfl ?_
  refine load_slice b4 rfl ?_
  refine F29_call (F29_bv (by omega) (hs.fr0 f1) fun b q w2 hB f2 zb zq => back_ptr ?_)
  refine F46_call (F46_spec hB fun w3 f3 => back_bool (hk _ ((f1.trans f2 fun _ h => h.elim).trans f3 fun _ h => h.elim)))
theorem C27 {n c lo hi : Nat} {p : Option Addr} {f : Nat → Bool} {k : Value → W} {w : World} (hn : n < 524288) (hs : BV w lo hi n p f)
    (hk : ∀ (r : Bool) w', (r = true ↔ ∀ j, f j = false) → Fr (fun _ => False) w w' → k (.bool r) w') : F27 k n p (L n f).length c w := by
  unfold F27
  refine new_intro fun n4 w1 e1 b4 f1 z1 => ?_
  refine load_int b4 rfl ?_
  refine load_slice b4 rfl ?_
  refine F29_call (F29_bv (by omega) (hs.fr0 f1) fun b q w2 hB f2 zb zq => back_ptr ?_)
  refine F48_call (F48_spec hB (by omega) fun r hr => back_bool (hk r _ hr (f1.trans f2 fun _ h => h.elim)))
theorem L_same {n m : Nat} {f g : Nat → Bool} (h : ∀ j, f j = g j) (hf : ∀ j, f j = true → j < n) (hg : ∀ j, g j = true → j < m) : L n f = L m g := by
  have e : f = g := funext h
  subst e
  rcases Nat.le_total n m with h | h
  · exact (L_more h hf).symm
  · exact L_more h hg
/-- BSSame, of the same. -/
theorem C22 {n c lo hi m d lo2 hi2 : Nat} {p q : Option Addr} {f g : Nat → Bool} {k : Value → W} {w : World} (hn : n < 524288) (hs : BV w lo hi n p f) (ht : BV w lo2 hi2 m q g) (hnm : n = m) (hfg : ∀ j, f j = g j)
    (hk : ∀ w', Fr (fun _ => False) w w' → k (.bool true) w') : F22 k n p (L n f).length c m q (L m g).length d w := by
  subst hnm
  unfold F22
  refine new_intro fun n5 w1 e1 b5 f1 z1 => ?_
  refine new_intro fun n6 w2 e2 b6 f2 z2 => ?_
  replace b5 := b5.fr f2 id
  have f12 := f1.trans f2 fun _ h => h.elim
  refine load_int b5 rfl ?_
  refine load_int b6 rfl ?_
  rw [beq_self_eq_true]
  simp only [BIf_true]
  refine load_slice b5 rfl ?_
  refine load_slice b6 rfl ?_
  have hl := L_length_le n f
  refine F11_call (F11_spec (hs.fr0 f12).sees (ht.fr0 f12).sees (by omega) fun w3 f3 => back_bool ?_)
  replace b5 := b5.fr f3 id
  replace b6 := b6.fr f3 id
  repeat (first | refine Chk1_iff.2 ⟨by rw [b5.cell]; rfl, ?_⟩ | refine Chk1_iff.2 ⟨by rw [b6.cell]; rfl, ?_⟩)
  rw [decide_eq_true (L_same hfg hs.lt ht.lt)]
  exact hk _ (f12.trans f3 fun _ h => h.elim)
end Go.Proofs.YtopdlfecfgimpaaDoor.E
