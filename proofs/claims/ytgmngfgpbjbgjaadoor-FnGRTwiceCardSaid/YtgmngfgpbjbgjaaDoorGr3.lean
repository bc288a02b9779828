/-
  Neighbours as the thin package gives them, small functions over lists of numbers, the two laws.
-/
import Derived.Test.YtgmngfgpbjbgjaaDoorGr2
namespace Go.Proofs.YtgmngfgpbjbgjaaDoor.E
open Go
set_option linter.unusedSimpArgs false
set_option linter.unusedVariables false
set_option maxRecDepth 100000
set_option maxHeartbeats 2000000

theorem perm_len {xs ys : List Int} (h : xs.Perm ys) : xs.length = ys.length := h.length_eq
/-- GRAdj. -/
theorem F7_spec {k : Value → W} {w : World} {base l c : Nat} {p : Option Addr} {a0 a1 a2 : Addr} {es : List (Int × Int)} {v : Int} (hE : Edges w p es) (hl : l = es.length) (hs : Sent w base a0 a1 a2) (hlen : es.length ≤ 1000)
    (hd : ((grun G0 es).1.nb v).length < 100000)
    (hk : ∀ (xs : List Int) q m c' w', m = xs.length → (v ∈ (grun G0 es).1.vs → xs.Perm ((grun G0 es).1.nb v)) → Own w' 3 q m c' (ints xs) → Fr (fun _ => False) w w' →
      k (.tuple #[.slice q m c', .int .i64 (if v ∈ (grun G0 es).1.vs then 0 else 1)]) w') : F7 k p l c v w := by
  unfold F7
  refine F12_call (F12_spec hE hl hs hlen fun gb ep ec w1 g1 o1 f1 => back_two ?_)
  have s1 := hs.fr0 f1
  generalize (grun G0 es).1 = s at *
  -- the loop, for whatever came back
  have loop : ∀ (ys : List Int) (code : Int) (q : Option Addr) (c' : Nat) (w2 : World), 0 ≤ code ∧ code ≤ 3 → Own w2 20 q ys.length c' (ys.map kI) → Fr (fun _ => False) w w2 → ys.length < 100000 →
      (∀ q2 m2 c2 w', m2 = ys.length → Own w' 3 q2 m2 c2 (ints ys) → Fr (fun _ => False) w w' → k (.tuple #[.slice q2 m2 c2, .int .i64 code]) w') →
      Loop [.slice, .any, .slice, (.int .i64), (.int .i64)] (F7_L1 k) none 0 0 (errV a0 a1 a2 code) q ys.length c' ((ys.length : Nat) : Int) 0 w2 := by
    intro ys code q c' w2 hc o2 f2 hy hk
    refine F7_L1_rule (fun ap al ac e sp sl sc x10 x11 w' => e = errV a0 a1 a2 code ∧ sp = q ∧ sl = ys.length ∧ x10 = (ys.length : Nat) ∧ ∃ i : Nat, x11 = i ∧ i ≤ ys.length ∧ al = i ∧ Own w' 3 ap i ac (ints (ys.take i)) ∧ (∀ b, bl ap b → w2.heap.size ≤ b) ∧ Own w' 20 q ys.length c' (ys.map kI) ∧ Fr (fun _ => False) w w' ∧ Fr (fun _ => False) w2 w')
      (fun _ _ _ _ _ _ _ x10 x11 _ => (x10 - x11).toNat) ?_ ⟨rfl, rfl, rfl, rfl, 0, rfl, Nat.zero_le _, rfl, Own.nil _ _, fun b hb => (by obtain ⟨a, h, _⟩ := hb; cases h), o2, f2, Fr.refl _ _⟩
    rintro ap al ac e sp sl sc x10 x11 w3 ⟨rfl, hsp, hsl, rfl, i, rfl, hi, hal, o3, hb3, oq, f3, f23⟩
    obtain rfl := hsp.symm; obtain rfl := hsl.symm; obtain rfl := hal.symm
    unfold F7_L1
    by_cases hil : i < ys.length
    rotate_left
    · have : i = ys.length := by omega
      subst this
      rw [decide_eq_false (by omega)]
      simp only [BIf_false]
      rw [List.take_length] at o3
      refine F16_call (F16_spec (hs.fr0 f3) hc (back_int ?_))
      exact hk _ _ _ _ rfl o3 f3
    rw [decide_eq_true (by omega)]
    have hget : ys[i]? = some (ys[i]'(by omega)) := List.getElem?_eq_getElem _
    generalize ys[i]'(by omega) = y at hget
    obtain ⟨qb, rest, rfl, hB, _, _⟩ := oq.get (by omega)
    simp only [BIf_true, NN_mk, Int.toNat_natCast]
    refine ⟨by omega, LoadT_any.2 ⟨kI y, ?_, ?_⟩⟩
    · rw [add_mk, Nat.zero_add, oq.cell hil, List.getElem?_map, hget]; rfl
    refine ⟨(y, ()), rfl, ?_⟩
    show RawT _ _ _ _ w3
    obtain ⟨ii, hi1, hi2, hi3, hi4, hi5⟩ := inf3
    refine append1 (P := Tryd.prog) und24 hi1 hi2 hi3 rfl (by omega) o3 rfl rfl (by omega) fun p7 c7 w7 f7 o7 hp7 hs7 => ?_
    have e : addI .i64 (i : Nat) 1 = ((i + 1 : Nat) : Int) := by rw [addI_i64 (by omega) (by omega)]; simp
    rw [e]
    have hlt : ∀ b, bl (some (⟨qb, 0, none⟩ : Addr)) b → b < w2.heap.size := fun b hb => o2.lt hb
    refine ⟨⟨(by trivial), (by trivial), (by trivial), (by trivial), i + 1, rfl, by omega, (by trivial), ?_, ?_, ?_, ?_, f23.trans f7 fun b hb => .inr (hb3 b hb)⟩, by omega⟩
    · rw [take_snoc hget, ints_append]; exact o7
    · intro b hb
      rcases hp7 b hb with h | h
      · exact hb3 b h
      · exact Nat.le_trans f23.size h
    · exact oq.fr f7 fun b hb h => by have := hb3 b h; have := hlt b hb; omega
    · exact f3.trans f7 fun b hb => .inr (by have := hb3 b hb; have := f2.size; omega)
  refine F15_call (F15_spec (v := v) g1 s1 hd (fun hv xs q m c' w2 hp hm o2 f2 => back_nbs ?_) fun hv w2 f2 => back_nbs ?_)
  · subst hm
    have := loop xs 0 q c' w2 (by omega) o2 (f1.trans f2 fun _ h => h.elim) (by rw [perm_len hp]; exact hd) fun q2 m2 c2 w' hm o f => by
      have := hk xs q2 m2 c2 w' hm (fun _ => hp) o f
      rw [if_pos hv] at this
      exact this
    exact this
  · have := loop [] 1 none 0 w2 (by omega) (Own.nil _ _) (f1.trans f2 fun _ h => h.elim) (by simp) fun q2 m2 c2 w' hm o f => by
      have := hk [] q2 m2 c2 w' hm (fun h => absurd h hv) o f
      rw [if_neg hv] at this
      exact this
    exact this
end Go.Proofs.YtgmngfgpbjbgjaaDoor.E
