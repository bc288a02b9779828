/-
  Plus trees: words with keys, each once; what a tree gets.
-/
import Derived.Test.YtofnapddoiodkaaPtY
namespace Go.Proofs.Ytofnapddoiodkaa.E
open Go
set_option linter.unusedSimpArgs false
set_option linter.unusedVariables false
set_option maxRecDepth 100000
set_option maxHeartbeats 8000000

/-! ## Plain -/
structure Holds (L own : List KV) : Prop where
  s : Srt L
  m : ∀ y, y ∈ L ↔ y ∈ own
  l : L.length = own.length
theorem putAll_props : ∀ (xs L : List KV), Srt L → (xs.map Prod.fst).Nodup → (∀ x ∈ xs, ∀ y ∈ L, y.1 ≠ x.1) → Srt (putAll L xs) ∧ (∀ y, y ∈ putAll L xs ↔ y ∈ L ∨ y ∈ xs) ∧ (putAll L xs).length = L.length + xs.length
  | [], L, s, _, _ => ⟨s, fun y => by simp [putAll], by simp [putAll]⟩
  | x :: xs, L, s, hn, hd => by
    rw [List.map_cons, List.nodup_cons] at hn
    have hx := hd x (List.mem_cons_self ..)
    obtain ⟨h1, h2, h3⟩ := putAll_props xs (puts x L) (srt_puts s) hn.2 (fun z hz y hy => by
      rcases mem_puts.1 hy with rfl | ⟨hy, _⟩
      · intro e
        exact hn.1 (by rw [e]; exact List.mem_map.2 ⟨z, hz, rfl⟩)
      · exact hd z (List.mem_cons_of_mem _ hz) y hy)
    have hl := puts_len' (q := x) s
    rw [if_neg (by rw [has_false.2 hx]; exact Bool.false_ne_true)] at hl
    refine ⟨h1, fun y => ?_, ?_⟩
    · show y ∈ putAll (puts x L) xs ↔ _
      rw [h2, mem_puts, List.mem_cons]
      constructor
      · rintro ((h | ⟨h, _⟩) | h)
        · exact .inr (.inl h)
        · exact .inl h
        · exact .inr (.inr h)
      · rintro (h | h | h)
        · exact .inl (.inr ⟨h, hx y h⟩)
        · exact .inl (.inl h)
        · exact .inr h
    · show (putAll (puts x L) xs).length = _
      rw [h3, hl]; simp; omega
theorem holds_put {own : List KV} (h : (own.map Prod.fst).Nodup) : Holds (putAll [] own) own := by
  obtain ⟨h1, h2, h3⟩ := putAll_props own [] List.Pairwise.nil h (fun _ _ _ h => by cases h)
  exact ⟨h1, fun y => by rw [h2]; simp, by rw [h3]; simp⟩
theorem holds_rev {own : List KV} (h : (own.map Prod.fst).Nodup) : Holds (putAll [] own.reverse) own := by
  have := holds_put (own := own.reverse) (by rw [List.map_reverse]; exact (List.reverse_perm _).nodup_iff.2 h)
  exact ⟨this.s, fun y => by rw [this.m]; simp, by rw [this.l]; simp⟩
theorem Holds.look {L own : List KV} (h : Holds L own) {y : KV} (hy : y ∈ own) : look y.1 L = some y := look_some h.s ((h.m y).2 hy) rfl
theorem Holds.same {L L' own : List KV} (h : Holds L own) (h' : Holds L' own) (k : Int) : E.look k L = E.look k L' := by
  by_cases hk : ∃ y ∈ own, y.1 = k
  · obtain ⟨y, hy, rfl⟩ := hk
    rw [h.look hy, h'.look hy]
  · rw [look_none fun y hy e => hk ⟨y, (h.m y).1 hy, e⟩, look_none fun y hy e => hk ⟨y, (h'.m y).1 hy, e⟩]
theorem putAll_app (L a b : List KV) : putAll L (a ++ b) = putAll (putAll L a) b := List.foldl_append ..
def stp1 (c : List KV) : Stp := ⟨1, c⟩
theorem runL_calls : ∀ (calls : List (List KV)) (L : List KV), runL L (calls.map stp1) = putAll L calls.flatten
  | [], L => rfl
  | c :: calls, L => by
    rw [List.flatten_cons, putAll_app, ← runL_calls calls]; rfl
theorem tot_calls : ∀ calls : List (List KV), tot (calls.map stp1) = calls.flatten.length
  | [] => rfl
  | c :: calls => by
    rw [List.flatten_cons, List.length_append, ← tot_calls calls]; rfl
theorem runA_app : ∀ (a b : List Stp) (L : List KV), runA L (a ++ b) = runA L a ++ runA (runL L a) b
  | [], b, L => rfl
  | s :: a, b, L => by show _ :: runA _ (a ++ b) = _ :: _; rw [runA_app a b]; rfl

/-! ## deepWords -/
section
variable {k : Value → W} {w : World}
theorem has_take {x : Int} {out : List KV} {j : Nat} {y : KV} (h : out[j]? = some y) : has x (out.take (j + 1)) = (has x (out.take j) || decide (y.1 = x)) := by
  rw [take_snoc h]; simp [has]
theorem F4_spec {xs : List Int} {p : Option Addr} {c : Nat} (hI : Ints w p xs) (hlen : xs.length < 4000000000) (hk : ∀ w' p' c' own, SlO ItK w' p' own.length c' own → (own.map Prod.fst).Nodup → own.length ≤ 40 → (∀ b, bl p' b → w.heap.size ≤ b) → Fr (fun _ => False) w w' → k (.slice p' own.length c') w') : F4 k p xs.length c w := by
  unfold F4
  refine F4_L1_rule (I := fun kp kl kc op ol oc i w' => kp = p ∧ kl = xs.length ∧ kc = c ∧ ∃ (t : Nat) (out : List KV), i = ((t : Nat) : Int) ∧ t ≤ xs.length ∧ t ≤ 40 ∧ SlO ItK w' op ol oc out ∧ (out.map Prod.fst).Nodup ∧ out.length ≤ t ∧ (∀ b, bl op b → w.heap.size ≤ b) ∧ Fr (fun _ => False) w w')
    (μ := fun kp kl kc op ol oc i w' => xs.length - i.toNat) ?_ ⟨rfl, rfl, rfl, 0, [], rfl, Nat.zero_le _, Nat.zero_le _, SlO.nil _ _, List.nodup_nil, Nat.le_refl _, (fun b ⟨_, h, _⟩ => by cases h), Fr.refl _ _⟩
  rintro kp kl kc op ol oc i w1 ⟨e0, e1, e2, t, out, rfl, ht, ht40, O1, hnd, hol, hop, f1⟩
  obtain rfl := e0.symm
  obtain rfl := e2.symm
  unfold F4_L1
  rw [e1]
  have hoL := O1.len
  have done : k (.slice op ol oc) w1 := by
    subst hoL
    exact hk w1 op oc out O1 hnd (by omega) hop f1
  by_cases hlt : t < xs.length
  · rw [decide_eq_true (show ((t : Nat) : Int) < ((xs.length : Nat) : Int) by omega), BIf_true]
    by_cases h40 : t < 40
    · rw [decide_eq_true (show ((t : Nat) : Int) < 40 by omega), BIf_true]
      have hx : xs[t]? = some xs[t] := List.getElem?_eq_getElem hlt
      generalize xs[t] = x at hx
      refine F4_L2_rule (I := fun kp' kl' kc' op' ol' oc' i' th j w' => kp' = p ∧ kl' = xs.length ∧ kc' = c ∧ op' = op ∧ ol' = ol ∧ oc' = oc ∧ i' = ((t : Nat) : Int) ∧ ∃ m : Nat, j = ((m : Nat) : Int) ∧ m ≤ out.length ∧ th = has x (out.take m) ∧ SlO ItK w' op ol oc out ∧ Fr (fun _ => False) w w')
        (μ := fun kp' kl' kc' op' ol' oc' i' th j w' => out.length - j.toNat) ?_ ⟨rfl, rfl, rfl, rfl, rfl, rfl, rfl, 0, rfl, Nat.zero_le _, rfl, O1, f1⟩
      rintro kp' kl' kc' op' ol' oc' i' th j w2 ⟨e0, e1, e2, e3, e4, e5, rfl, m, rfl, hm, rfl, O2, f2⟩
      obtain rfl := e0.symm
      obtain rfl := e2.symm
      obtain rfl := e3.symm
      obtain rfl := e4.symm
      obtain rfl := e5.symm
      unfold F4_L2
      rw [e1]
      by_cases hlm : m < out.length
      · rw [decide_eq_true (show ((m : Nat) : Int) < ((ol : Nat) : Int) by omega), BIf_true]
        refine drw_intro fun w3 f3 z3 => ?_
        have O3 := O2.fr0 f3
        have f03 := f2.trans f3 fun _ h => h.elim
        have hy : out[m]? = some out[m] := List.getElem?_eq_getElem hlm
        rw [addI_i64 (by omega) (by omega)]
        cases hh : has x (out.take m) with
        | true =>
          rw [BIf_true]
          refine ⟨⟨rfl, rfl, rfl, rfl, rfl, rfl, rfl, m + 1, by omega, hlm, by rw [has_take hy, hh]; rfl, O3, f03⟩, ?_⟩
          show out.length - (((m : Nat) : Int) + 1).toNat < out.length - ((m : Nat) : Int).toNat
          omega
        | false =>
          rw [BIf_false]
          obtain ⟨q, o, rfl, h0, h1⟩ := O3.sl.get hy
          obtain ⟨a, rfl, ha⟩ := (hI.fr0 f03) t x hx
          simp only [NN_mk, Int.toNat_natCast, add_mk]
          refine ⟨by omega, LoadT_int.2 ⟨_, h0, ⟨by omega, LoadT_int.2 ⟨_, ha, ?_⟩⟩⟩⟩
          refine ⟨⟨by trivial, by trivial, by trivial, by trivial, by trivial, by trivial, by trivial, m + 1, by omega, hlm, by rw [has_take hy, hh, Bool.false_or]; exact Bool.eq_iff_iff.2 (by simp), O3, f03⟩, ?_⟩
          show out.length - (((m : Nat) : Int) + 1).toNat < out.length - ((m : Nat) : Int).toNat
          omega
      · rw [decide_eq_false (show ¬ ((m : Nat) : Int) < ((ol : Nat) : Int) by omega), BIf_false]
        have : m = out.length := by omega
        subst this
        rw [List.take_length]
        rw [addI_i64 (by omega) (by omega)]
        cases hh : has x out with
        | true =>
          rw [Bool.not_true, BIf_false]
          refine ⟨⟨rfl, rfl, rfl, t + 1, out, by omega, hlt, h40, O2, hnd, by omega, hop, f2⟩, ?_⟩
          show xs.length - (((t : Nat) : Int) + 1).toNat < xs.length - ((t : Nat) : Int).toNat
          omega
        | false =>
          rw [Bool.not_false, BIf_true]
          obtain ⟨a, rfl, ha⟩ := (hI.fr0 f2) t x hx
          simp only [NN_mk, Int.toNat_natCast]
          refine ⟨by omega, LoadT_int.2 ⟨_, ha, ?_⟩⟩
          refine bld_it fun n w3 e3 b3 f3 z3 => ?_
          have hz2 := f2.size
          refine app_it (x := (x, ((t : Nat) : Int) + 1)) (O2.fr0 f3) b3 (by omega) fun p' c' w4 f4 O4 hp4 => ?_
          refine ⟨⟨by trivial, by trivial, by trivial, t + 1, out ++ [(x, ((t : Nat) : Int) + 1)], by omega, hlt, h40, O4, ?_, by simp; omega, fun b hb => ?_, (f2.trans f3 fun _ h => h.elim).trans f4 fun b hb => .inr (hop b hb)⟩, ?_⟩
          · rw [List.map_append, List.map_cons, List.map_nil]
            refine List.nodup_append.2 ⟨hnd, by simp, fun y hy z hz => ?_⟩
            rw [List.mem_singleton] at hz
            obtain ⟨u, hu, rfl⟩ := List.mem_map.1 hy
            rw [hz]
            exact has_false.1 hh u hu
          · rcases hp4 b hb with h | h
            · exact hop b h
            · omega
          · show xs.length - (((t : Nat) : Int) + 1).toNat < xs.length - ((t : Nat) : Int).toNat
            omega
    · rw [decide_eq_false (show ¬ ((t : Nat) : Int) < 40 by omega), BIf_false]
      exact done
  · rw [decide_eq_false (show ¬ ((t : Nat) : Int) < ((xs.length : Nat) : Int) by omega), BIf_false]
    exact done
end
end Go.Proofs.Ytofnapddoiodkaa.E
