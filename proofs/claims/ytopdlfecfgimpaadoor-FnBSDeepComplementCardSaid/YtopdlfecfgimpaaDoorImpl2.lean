/-
  More of the thin package's functions on bitsets. The straight parts were printed by this session's own program walk.py.
-/
import Derived.Test.YtopdlfecfgimpaaDoorOps
namespace Go.Proofs.YtopdlfecfgimpaaDoor.E
open Go
set_option linter.unusedSimpArgs false
set_option linter.unusedVariables false
set_option maxRecDepth 100000

/-- BSSet. -/
theorem F8_spec {n i c : Nat} {p : Option Addr} {f : Nat → Bool} {k : Value → W} {w : World} (hn : n < 524288) (hi : i < 524288) (hs : Sees w p (L n f)) (hf : ∀ j, f j = true → j < n)
    (hk : ∀ p' c' w', Sees w' p' (L (max n (i + 1)) (fun j => f j || decide (j = i))) → Fr (fun _ => False) w w' → k (.agg #[.int .u64 (max n (i + 1) : Nat), .slice p' (L (max n (i + 1)) (fun j => f j || decide (j = i))).length c']) w') : F8 k n p (L n f).length c i w := by
  unfold F8
  refine new_intro fun n4 w1 e1 bn4 f1 z1 => ?_
  have fr := f1
  replace hs := hs.fr0 f1
  refine new_intro fun n5 w2 e2 bn5 f2 z2 => ?_
  replace fr := fr.trans f2 fun _ h => h.elim
  replace hs := hs.fr0 f2
  replace bn4 := bn4.fr f2 id
  refine load_int bn4 rfl ?_
  refine load_slice bn4 rfl ?_
  refine F29_call (F29_rep (by omega) hs hf fun b q w3 hB f3 hBb hBq => back_ptr ?_)
  replace fr := fr.trans f3 fun _ h => h.elim
  have z3 := f3.size
  replace hs := hs.fr0 f3
  replace bn4 := bn4.fr f3 id
  replace bn5 := bn5.fr f3 id
  refine F30_call (F30_spec hB (by omega) fun q2 w4 hB f4 hq2 => back_ptr ?_)
  replace fr := fr.trans f4 fun x e => by rcases e with rfl | rfl <;> exact .inr (by omega)
  have z4 := f4.size
  replace bn4 := bn4.fr f4 (by rintro (e | e) <;> omega)
  replace bn5 := bn5.fr f4 (by rintro (e | e) <;> omega)
  refine F31_call (F31_spec (by omega) hB fun p2 c2 w5 own f5 hp2 => back_bits ?_)
  replace fr := fr.trans f5 fun _ h => h.elim
  have z5 := f5.size
  replace bn4 := bn4.fr f5 id
  replace bn5 := bn5.fr f5 id
  replace hB := hB.fr f5 id id
  refine store_intro bn5 (by simp) rfl fun w6 bn5 f6 z6 => ?_
  replace fr := fr.trans f6 fun x (e : x = n5) => .inr (by omega)
  replace bn4 := bn4.fr f6 (show ¬ n4 = n5 by omega)
  replace own := own.fr f6 fun x hx (e : x = n5) => by have := hp2 x hx; omega
  refine store_intro bn5 (by simp) rfl fun w7 bn5 f7 z7 => ?_
  replace fr := fr.trans f7 fun x (e : x = n5) => .inr (by omega)
  replace bn4 := bn4.fr f7 (show ¬ n4 = n5 by omega)
  replace own := own.fr f7 fun x hx (e : x = n5) => by have := hp2 x hx; omega
  refine load_int bn5 rfl ?_
  refine load_slice bn5 rfl ?_
  -- k (.agg #[.int .u64 x12, .slice s13p s13l s13c])
  exact hk p2 c2 _ own.sees fr

/-- BSLen. -/
theorem F23_spec {n c : Nat} {p : Option Addr} {f : Nat → Bool} {k : Value → W} {w : World} (hn : n < 524288) (hs : Sees w p (L n f)) (hf : ∀ j, f j = true → j < n)
    (hk : ∀ w', Fr (fun _ => False) w w' → k (.int .u64 n) w') : F23 k n p (L n f).length c w := by
  unfold F23
  refine new_intro fun n3 w1 e1 bn3 f1 z1 => ?_
  have fr := f1
  replace hs := hs.fr0 f1
  refine load_int bn3 rfl ?_
  refine load_slice bn3 rfl ?_
  refine F29_call (F29_rep (by omega) hs hf fun b q w2 hB f2 hBb hBq => back_ptr ?_)
  replace fr := fr.trans f2 fun _ h => h.elim
  have z2 := f2.size
  replace hs := hs.fr0 f2
  replace bn3 := bn3.fr f2 id
  refine F44_call (Len_spec hB (back_int ?_))
  -- k (.int .u64 x7)
  exact hk _ fr

/-- BSSetAll. -/
theorem F26_spec {n c : Nat} {p : Option Addr} {f : Nat → Bool} {k : Value → W} {w : World} (hn : n < 524288) (hs : Sees w p (L n f)) (hf : ∀ j, f j = true → j < n)
    (hk : ∀ p' c' w', Sees w' p' (L n (fun j => decide (j < n))) → Fr (fun _ => False) w w' → k (.agg #[.int .u64 n, .slice p' (L n (fun j => decide (j < n))).length c']) w') : F26 k n p (L n f).length c w := by
  unfold F26
  refine new_intro fun n3 w1 e1 bn3 f1 z1 => ?_
  have fr := f1
  replace hs := hs.fr0 f1
  refine new_intro fun n4 w2 e2 bn4 f2 z2 => ?_
  replace fr := fr.trans f2 fun _ h => h.elim
  replace hs := hs.fr0 f2
  replace bn3 := bn3.fr f2 id
  refine load_int bn3 rfl ?_
  refine load_slice bn3 rfl ?_
  refine F29_call (F29_rep (by omega) hs hf fun b q w3 hB f3 hBb hBq => back_ptr ?_)
  replace fr := fr.trans f3 fun _ h => h.elim
  have z3 := f3.size
  replace hs := hs.fr0 f3
  replace bn3 := bn3.fr f3 id
  replace bn4 := bn4.fr f3 id
  refine F47_call (F47_spec hB (by omega) fun w4 hB f4 => back_ptr ?_)
  replace fr := fr.trans f4 fun x e => by rcases e with rfl | rfl <;> exact .inr (by omega)
  have z4 := f4.size
  replace bn3 := bn3.fr f4 (by rintro (e | e) <;> omega)
  replace bn4 := bn4.fr f4 (by rintro (e | e) <;> omega)
  refine F31_call (F31_spec (by omega) hB fun p2 c2 w5 own f5 hp2 => back_bits ?_)
  replace fr := fr.trans f5 fun _ h => h.elim
  have z5 := f5.size
  replace bn3 := bn3.fr f5 id
  replace bn4 := bn4.fr f5 id
  replace hB := hB.fr f5 id id
  refine store_intro bn4 (by simp) rfl fun w6 bn4 f6 z6 => ?_
  replace fr := fr.trans f6 fun x (e : x = n4) => .inr (by omega)
  replace bn3 := bn3.fr f6 (show ¬ n3 = n4 by omega)
  replace own := own.fr f6 fun x hx (e : x = n4) => by have := hp2 x hx; omega
  refine store_intro bn4 (by simp) rfl fun w7 bn4 f7 z7 => ?_
  replace fr := fr.trans f7 fun x (e : x = n4) => .inr (by omega)
  replace bn3 := bn3.fr f7 (show ¬ n3 = n4 by omega)
  replace own := own.fr f7 fun x hx (e : x = n4) => by have := hp2 x hx; omega
  refine load_int bn4 rfl ?_
  refine load_slice bn4 rfl ?_
  -- k (.agg #[.int .u64 x11, .slice s12p s12l s12c])
  exact hk p2 c2 _ own.sees fr

/-- BSIntersection. -/
theorem F28_spec {n c m d : Nat} {p q : Option Addr} {f g : Nat → Bool} {k : Value → W} {w : World} (hn : n < 524288) (hm : m < 524288) (hs : Sees w p (L n f)) (hf : ∀ j, f j = true → j < n) (ht : Sees w q (L m g)) (hg : ∀ j, g j = true → j < m)
    (hk : ∀ p' c' w', Sees w' p' (L (min n m) (fun j => f j && g j)) → Fr (fun _ => False) w w' → k (.agg #[.int .u64 (min n m : Nat), .slice p' (L (min n m) (fun j => f j && g j)).length c']) w') : F28 k n p (L n f).length c m q (L m g).length d w := by
  unfold F28
  refine new_intro fun n5 w1 e1 bn5 f1 z1 => ?_
  have fr := f1
  replace hs := hs.fr0 f1
  replace ht := ht.fr0 f1
  refine new_intro fun n6 w2 e2 bn6 f2 z2 => ?_
  replace fr := fr.trans f2 fun _ h => h.elim
  replace hs := hs.fr0 f2
  replace ht := ht.fr0 f2
  replace bn5 := bn5.fr f2 id
  refine new_intro fun n7 w3 e3 bn7 f3 z3 => ?_
  replace fr := fr.trans f3 fun _ h => h.elim
  replace hs := hs.fr0 f3
  replace ht := ht.fr0 f3
  replace bn5 := bn5.fr f3 id
  replace bn6 := bn6.fr f3 id
  refine drw_intro fun w4 f4 z4 => ?_
  replace fr := fr.trans f4 fun _ h => h.elim
  replace hs := hs.fr0 f4
  replace ht := ht.fr0 f4
  replace bn5 := bn5.fr f4 id
  replace bn6 := bn6.fr f4 id
  replace bn7 := bn7.fr f4 id
  refine load_int bn5 rfl ?_
  refine load_slice bn5 rfl ?_
  refine load_int bn6 rfl ?_
  refine load_slice bn6 rfl ?_
  refine F29_call (F29_rep (by omega) hs hf fun b1 q1 w5 h1 f5 h1b h1q => back_ptr ?_)
  replace fr := fr.trans f5 fun _ h => h.elim
  have z5 := f5.size
  replace hs := hs.fr0 f5
  replace ht := ht.fr0 f5
  replace bn5 := bn5.fr f5 id
  replace bn6 := bn6.fr f5 id
  replace bn7 := bn7.fr f5 id
  refine Chk1_iff.2 ⟨by rw [bn6.cell]; rfl, ?_⟩
  refine Chk1_iff.2 ⟨by rw [bn6.cell]; rfl, ?_⟩
  refine F29_call (F29_rep (by omega) ht hg fun b2 q2 w6 h2 f6 h2b h2q => back_ptr ?_)
  replace fr := fr.trans f6 fun _ h => h.elim
  have z6 := f6.size
  replace hs := hs.fr0 f6
  replace ht := ht.fr0 f6
  replace bn5 := bn5.fr f6 id
  replace bn6 := bn6.fr f6 id
  replace bn7 := bn7.fr f6 id
  replace h1 := h1.fr f6 id id
  refine Chk1_iff.2 ⟨by rw [bn5.cell]; rfl, ?_⟩
  refine Chk1_iff.2 ⟨by rw [bn5.cell]; rfl, ?_⟩
  refine F49_call (F49_spec h1 h2 (by omega) (by omega) fun r qr w7 hB f7 hBr hBq => back_ptr ?_)
  replace fr := fr.trans f7 fun _ h => h.elim
  have z7 := f7.size
  replace hs := hs.fr0 f7
  replace ht := ht.fr0 f7
  replace bn5 := bn5.fr f7 id
  replace bn6 := bn6.fr f7 id
  replace bn7 := bn7.fr f7 id
  replace h1 := h1.fr f7 id id
  replace h2 := h2.fr f7 id id
  refine Chk1_iff.2 ⟨by rw [bn6.cell]; rfl, ?_⟩
  refine Chk1_iff.2 ⟨by rw [bn6.cell]; rfl, ?_⟩
  refine Chk1_iff.2 ⟨by rw [bn5.cell]; rfl, ?_⟩
  refine Chk1_iff.2 ⟨by rw [bn5.cell]; rfl, ?_⟩
  refine F31_call (F31_spec (by omega) hB fun p2 c2 w8 own f8 hp2 => back_bits ?_)
  replace fr := fr.trans f8 fun _ h => h.elim
  have z8 := f8.size
  replace bn5 := bn5.fr f8 id
  replace bn6 := bn6.fr f8 id
  replace bn7 := bn7.fr f8 id
  replace hB := hB.fr f8 id id
  refine Chk1_iff.2 ⟨by rw [bn6.cell]; rfl, ?_⟩
  refine Chk1_iff.2 ⟨by rw [bn6.cell]; rfl, ?_⟩
  refine Chk1_iff.2 ⟨by rw [bn5.cell]; rfl, ?_⟩
  refine Chk1_iff.2 ⟨by rw [bn5.cell]; rfl, ?_⟩
  refine store_intro bn7 (by simp) rfl fun w9 bn7 f9 z9 => ?_
  replace fr := fr.trans f9 fun x (e : x = n7) => .inr (by omega)
  replace bn5 := bn5.fr f9 (show ¬ n5 = n7 by omega)
  replace bn6 := bn6.fr f9 (show ¬ n6 = n7 by omega)
  replace own := own.fr f9 fun x hx (e : x = n7) => by have := hp2 x hx; omega
  refine store_intro bn7 (by simp) rfl fun w10 bn7 f10 z10 => ?_
  replace fr := fr.trans f10 fun x (e : x = n7) => .inr (by omega)
  replace bn5 := bn5.fr f10 (show ¬ n5 = n7 by omega)
  replace bn6 := bn6.fr f10 (show ¬ n6 = n7 by omega)
  replace own := own.fr f10 fun x hx (e : x = n7) => by have := hp2 x hx; omega
  refine load_int bn7 rfl ?_
  refine load_slice bn7 rfl ?_
  -- k (.agg #[.int .u64 x17, .slice s18p s18l s18c])
  exact hk p2 c2 _ own.sees fr

theorem back_bits_int {f : Int → Option Addr → Nat → Nat → Int → W} {n m : Int} {p : Option Addr} {l c : Nat} {w : World} (h : f n p l c m w) :
    Back (.tup [(.agg [(.int .u64), .slice]), (.one (.int .u64))]) f (.returned (.tuple #[.agg #[.int .u64 n, .slice p l c], .int .u64 m])) w := ⟨(n, (p, l, c), m, ()), rfl, h⟩

end Go.Proofs.YtopdlfecfgimpaaDoor.E
