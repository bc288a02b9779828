/-
  Several bit arrays: what each step does and answers.
-/
import Derived.Test.YtooejhmelodiaaaBaV
namespace Go.Proofs.Ytooejhmelodiaaa.E
open Go
set_option linter.unusedSimpArgs false
set_option linter.unusedVariables false
set_option maxRecDepth 100000
set_option maxHeartbeats 4000000

def rf (n : Nat) : Value := .iface 73 (.pointer (some ⟨n, 0, none⟩))
structure AS (w : World) (ab : Nat) (Ps : List Sp) (ap : Option Addr) (ac : Nat) (ns : List Nat) (Fs : Nat → Nat → Prop) : Prop where
  a : Blk w ab 44 [.slice ap Ps.length ac]
  o : Own w 48 ap Ps.length ac (ns.map rf)
  e : ∀ (i : Nat) (P : Sp), Ps[i]? = some P → ∃ n, ns[i]? = some n ∧ SA w n P (Fs i)
  d : ∀ i j, i < Ps.length → j < Ps.length → i ≠ j → ∀ b, Fs i b → ¬ Fs j b
def AR (w : World) (ab : Nat) (Ps : List Sp) (G : Nat → Prop) : Prop := ∃ ap ac ns Fs, AS w ab Ps ap ac ns Fs ∧ ∀ b, G b ↔ b = ab ∨ bl ap b ∨ ∃ i, i < Ps.length ∧ Fs i b
section
variable {w : World} {ab : Nat} {Ps : List Sp}
theorem AS.fr {w' : World} {ap : Option Addr} {ac : Nat} {ns : List Nat} {Fs : Nat → Nat → Prop} {S : Nat → Prop} (h : AS w ab Ps ap ac ns Fs) (f : Fr S w w') (h1 : ¬ S ab) (h2 : ∀ b, bl ap b → ¬ S b) (h3 : ∀ i, i < Ps.length → ∀ b, Fs i b → ¬ S b) : AS w' ab Ps ap ac ns Fs :=
  ⟨h.a.fr f h1, h.o.fr f h2, fun i P hP => by
    obtain ⟨n, e1, e2⟩ := h.e i P hP
    exact ⟨n, e1, e2.fr f (h3 i (List.getElem?_eq_some_iff.1 hP).1)⟩, h.d⟩
theorem AR.fr {w' : World} {G S : Nat → Prop} (h : AR w ab Ps G) (f : Fr S w w') (hS : ∀ b, G b → ¬ S b) : AR w' ab Ps G := by
  obtain ⟨ap, ac, ns, Fs, h, hG⟩ := h
  exact ⟨ap, ac, ns, Fs, h.fr f (hS _ ((hG _).2 (.inl rfl))) (fun b hb => hS b ((hG b).2 (.inr (.inl hb)))) fun i hi b hb => hS b ((hG b).2 (.inr (.inr ⟨i, hi, hb⟩))), hG⟩
theorem AR.fr0 {w' : World} {G : Nat → Prop} (h : AR w ab Ps G) (f : Fr (fun _ => False) w w') : AR w' ab Ps G := h.fr f fun _ _ => id
theorem AS.f_lt {ap : Option Addr} {ac : Nat} {ns : List Nat} {Fs : Nat → Nat → Prop} (h : AS w ab Ps ap ac ns Fs) {i b : Nat} (hi : i < Ps.length) (hb : Fs i b) : b < w.heap.size ∧ ∀ u us, Blk w b u us → u ∈ [85, 65, 24] := by
  obtain ⟨n, _, e⟩ := h.e i _ (List.getElem?_eq_getElem hi)
  exact ⟨e.lt hb, fun u us hu => e.ty b u us hb hu⟩
theorem AR.lt {G : Nat → Prop} (h : AR w ab Ps G) {b : Nat} (hb : G b) : b < w.heap.size := by
  obtain ⟨ap, ac, ns, Fs, h, hG⟩ := h
  rcases (hG b).1 hb with rfl | hb | ⟨i, hi, hb⟩
  · exact h.a.lt
  · exact h.o.lt hb
  · exact (h.f_lt hi hb).1
theorem AR.ty {G : Nat → Prop} (h : AR w ab Ps G) : Tys G w [44, 48, 85, 65, 24] := fun b u us hb hu => by
  obtain ⟨ap, ac, ns, Fs, h, hG⟩ := h
  rcases (hG b).1 hb with rfl | hb | ⟨i, hi, hb⟩
  · rw [(hu.unique h.a).1]; decide
  · obtain ⟨us', hu'⟩ := h.o.blk hb; rw [(hu.unique hu').1]; decide
  · have := (h.f_lt hi hb).2 u us hu
    simp only [List.mem_cons, List.not_mem_nil, or_false] at this ⊢
    exact .inr (.inr this)
variable {k : Value → W}
theorem und42 : Try.prog.underlying 42 = some (.slice 48) := by kernel_rfl
theorem inf48 : ∃ i, Try.prog.info? 48 = some i ∧ i.zero = some .nilIface ∧ i.size = 1 ∧ i.bytes ≤ 4096 := ⟨_, rfl, by kernel_rfl, by kernel_rfl, Nat.le_of_ble_eq_true (by kernel_rfl)⟩
/-- An array is kept. -/
theorem F14_spec {G F : Nat → Prop} {n : Nat} {P : Sp} (h : AR w ab Ps G) (hn : SA w n P F) (hF : ∀ b, F b → ¬ G b) (hl : Ps.length < 100000)
    (hk : ∀ w' G', AR w' ab (Ps ++ [P]) G' → (∃ S, Fr S w w' ∧ Tys S w [44, 48] ∧ ∀ b, S b → G b) → (∀ b, G' b → G b ∨ F b ∨ w.heap.size ≤ b) → k (.tuple #[]) w') : F14 k (some ⟨ab, 0, none⟩) (rf n) w := by
  obtain ⟨ap, ac, ns, Fs, h, hG⟩ := h
  have hna : ∀ b, bl ap b → b ≠ ab := fun b hb e => by
    obtain ⟨us, hu⟩ := h.o.blk hb
    rw [e] at hu; exact absurd (hu.unique h.a).1 (by decide)
  have hnl : ns.length = Ps.length := by have := h.o.1; simpa using this
  obtain ⟨i48, g1, g2, g3, g4⟩ := inf48
  unfold F14
  rw [NN_mk]
  refine load_slice (i := 0) h.a rfl ?_
  refine append1 (P := Try.prog) und42 g1 g2 g3 rfl g4 h.o (v := rf n) rfl rfl (by omega) fun p' c' w1 f1 o1 hp' z1 => ?_
  have hB1 := h.a.fr f1 fun hb => hna ab hb rfl
  rw [NN_mk]
  refine store_intro (i := 0) hB1 (by simp) rfl fun w2 b2 f2 z2 => ?_
  have f02 : Fr (fun b => b = ab ∨ bl ap b) w w2 := (f1.mono fun b hb => .inl (.inr hb)).trans f2 fun b hb => .inl (.inl hb)
  have hab := h.a.lt
  have keep : ∀ i, i < Ps.length → ∀ b, Fs i b → ¬ (b = ab ∨ bl ap b) := fun i hi b hb hx => by
    have ht := (h.f_lt hi hb).2
    rcases hx with e | hx
    · subst e
      have := ht _ _ h.a
      simp at this
    · obtain ⟨us, hu⟩ := h.o.blk hx
      have := ht _ _ hu
      simp at this
  refine hk w2 (fun b => b = ab ∨ bl p' b ∨ ∃ i, i < (Ps ++ [P]).length ∧ (if i = Ps.length then F b else Fs i b)) ⟨p', c', ns ++ [n], fun i b => if i = Ps.length then F b else Fs i b, ⟨?_, ?_, fun i Q hQ => ?_, fun i j hi hj hij b hb hb' => ?_⟩, fun b => Iff.rfl⟩
    ⟨fun b => b = ab ∨ bl ap b, f02, fun b u us hb hu => ?_, fun b hb => ?_⟩ fun b hb => ?_
  · rw [List.length_append]; exact b2
  · rw [List.length_append, List.map_append]
    refine o1.fr f2 fun b hb e => ?_
    have e : b = ab := e
    rcases hp' b hb with h' | h'
    · exact hna b h' e
    · omega
  · by_cases hi : i < Ps.length
    · rw [List.getElem?_append_left hi] at hQ
      obtain ⟨m, e1, e2⟩ := h.e i Q hQ
      refine ⟨m, by rw [List.getElem?_append_left (by omega)]; exact e1, ?_⟩
      simp only [if_neg (show i ≠ Ps.length by omega)]
      exact e2.fr f02 (keep i hi)
    · rw [List.getElem?_append_right (by omega)] at hQ
      have : i = Ps.length := by have := (List.getElem?_eq_some_iff.1 hQ).1; simp at this; omega
      subst this
      rw [Nat.sub_self] at hQ
      cases hQ
      refine ⟨n, by rw [List.getElem?_append_right (by omega), hnl, Nat.sub_self]; rfl, ?_⟩
      simp only [if_true]
      exact hn.fr f02 fun b hb hx => hF b hb ((hG b).2 (by
        rcases hx with e | e
        · exact .inl e
        · exact .inr (.inl e)))
  · rw [List.length_append, List.length_singleton] at hi hj
    by_cases hi' : i = Ps.length
    · rw [if_pos hi'] at hb
      rw [if_neg (by omega)] at hb'
      exact hF b hb ((hG b).2 (.inr (.inr ⟨j, by omega, hb'⟩)))
    · rw [if_neg hi'] at hb
      by_cases hj' : j = Ps.length
      · rw [if_pos hj'] at hb'
        exact hF b hb' ((hG b).2 (.inr (.inr ⟨i, by omega, hb⟩)))
      · rw [if_neg hj'] at hb'
        exact h.d i j (by omega) (by omega) hij b hb hb'
  · rcases hb with e | hb
    · rw [show b = ab from e] at hu
      rw [(hu.unique h.a).1]; decide
    · obtain ⟨us', hu'⟩ := h.o.blk hb; rw [(hu.unique hu').1]; decide
  · rcases hb with e | hb
    · exact (hG b).2 (.inl e)
    · exact (hG b).2 (.inr (.inl hb))
  · rcases hb with e | hb | ⟨i, hi, hb⟩
    · exact .inl ((hG b).2 (.inl e))
    · rcases hp' b hb with h' | h'
      · exact .inl ((hG b).2 (.inr (.inl h')))
      · exact .inr (.inr h')
    · rw [List.length_append, List.length_singleton] at hi
      by_cases hi' : i = Ps.length
      · rw [if_pos hi'] at hb; exact .inr (.inl hb)
      · rw [if_neg hi'] at hb; exact .inl ((hG b).2 (.inr (.inr ⟨i, by omega, hb⟩)))
/-- An array, by its number. -/
theorem F17_spec {G : Nat → Prop} {i : Nat} {P : Sp} (h : AR w ab Ps G) (hi : Ps[i]? = some P) (hk : ∀ n F, SA w n P F → (∀ b, F b → G b) → k (rf n) w) : F17 k (some ⟨ab, 0, none⟩) ((i : Nat) : Int) w := by
  obtain ⟨ap, ac, ns, Fs, h, hG⟩ := h
  have hlt := (List.getElem?_eq_some_iff.1 hi).1
  obtain ⟨n, e1, e2⟩ := h.e i P hi
  unfold F17
  rw [decide_eq_false (show ¬ ((i : Nat) : Int) < 0 by omega), BIf_false, NN_mk]
  refine load_slice (i := 0) h.a rfl ?_
  rw [decide_eq_false (show ¬ ((i : Nat) : Int) ≥ ((Ps.length : Nat) : Int) by omega), BIf_false, NN_mk]
  refine load_slice (i := 0) h.a rfl ?_
  obtain ⟨q, rest, rfl, hB, _, _⟩ := h.o.get (by omega)
  rw [NN_mk, Req_iff, Int.toNat_natCast, add_mk, Nat.zero_add]
  refine ⟨by omega, load_any (v := rf n) hB ?_ (hk n (Fs i) e2 fun b hb => (hG b).2 (.inr (.inr ⟨i, hlt, hb⟩)))⟩
  rw [List.getElem?_append_left (by have := (List.getElem?_eq_some_iff.1 e1).1; simpa using this), List.getElem?_map, e1]; rfl
/-- A bit is set in one of the arrays. -/
theorem set_one {G : Nat → Prop} {i m : Nat} {P : Sp} (h : AR w ab Ps G) (hi : Ps[i]? = some P) (hP : Good P) (lP : P.length < 100000) (hm : m < 1152921504606846976) :
    ∃ n, (∀ {K : Value → W}, (∀ w' G', AR w' ab (Ps.set i (setP (m / 64) (2 ^ (m % 64)) P)) G' → Fr G w w' → (∀ b, G' b → G b ∨ w.heap.size ≤ b) → K .nilIface w') → F94 K (some ⟨n, 0, none⟩) ((m : Nat) : Int) w) ∧
      (∀ {K : Value → W}, K (rf n) w → F17 K (some ⟨ab, 0, none⟩) ((i : Nat) : Int) w) := by
  obtain ⟨ap, ac, ns, Fs, h, hG⟩ := h
  have hlt := (List.getElem?_eq_some_iff.1 hi).1
  obtain ⟨n, e1, e2⟩ := h.e i P hi
  refine ⟨n, fun {K} hK => ?_, fun {K} hK => ?_⟩
  · refine F94_spec e2 hP lP hm fun w' F' s' f' hF' => ?_
    have hnot : ∀ b, Fs i b → b ≠ ab ∧ ¬ bl ap b := fun b hb => ⟨fun e => by
      subst e
      have := (h.f_lt hlt hb).2 _ _ h.a
      simp at this, fun hx => by
      obtain ⟨us, hu⟩ := h.o.blk hx
      have := (h.f_lt hlt hb).2 _ _ hu
      simp at this⟩
    have hold : ∀ j, j < Ps.length → j ≠ i → ∀ b, Fs j b → ¬ F' b := fun j hj hji b hb hb' => by
      rcases hF' b hb' with h' | h'
      · exact h.d j i hj hlt hji b hb h'
      · have := (h.f_lt hj hb).1; omega
    refine hK w' (fun b => b = ab ∨ bl ap b ∨ ∃ j, j < (Ps.set i (setP (m / 64) (2 ^ (m % 64)) P)).length ∧ (if j = i then F' b else Fs j b)) ⟨ap, ac, ns, fun j b => if j = i then F' b else Fs j b, ⟨?_, ?_, fun j Q hQ => ?_, fun j l hj hl hjl b hb hb' => ?_⟩, fun b => Iff.rfl⟩ (f'.mono fun b hb => .inl ((hG b).2 (.inr (.inr ⟨i, hlt, hb⟩)))) fun b hb => ?_
    · rw [List.length_set]; exact h.a.fr f' fun hb => (hnot _ hb).1 rfl
    · rw [List.length_set]; exact h.o.fr f' fun b hb hx => (hnot b hx).2 hb
    · rw [List.getElem?_set] at hQ
      by_cases hj : i = j
      · subst hj
        rw [if_pos rfl, if_pos hlt] at hQ
        cases hQ
        refine ⟨n, e1, ?_⟩
        simp only [if_true]
        exact s'
      · rw [if_neg hj] at hQ
        obtain ⟨l, a1, a2⟩ := h.e j Q hQ
        refine ⟨l, a1, ?_⟩
        simp only [if_neg (Ne.symm hj)]
        exact a2.fr f' fun b hb hx => h.d j i (List.getElem?_eq_some_iff.1 hQ).1 hlt (Ne.symm hj) b hb hx
    · rw [List.length_set] at hj hl
      by_cases h1 : j = i
      · rw [if_pos h1] at hb
        rw [if_neg (by omega)] at hb'
        exact hold l hl (by omega) b hb' hb
      · rw [if_neg h1] at hb
        by_cases h2 : l = i
        · rw [if_pos h2] at hb'
          exact hold j hj h1 b hb hb'
        · rw [if_neg h2] at hb'
          exact h.d j l hj hl hjl b hb hb'
    · rcases hb with e | hb | ⟨j, hj, hb⟩
      · exact .inl ((hG b).2 (.inl e))
      · exact .inl ((hG b).2 (.inr (.inl hb)))
      · rw [List.length_set] at hj
        by_cases h1 : j = i
        · rw [if_pos h1] at hb
          rcases hF' b hb with h' | h'
          · exact .inl ((hG b).2 (.inr (.inr ⟨i, hlt, h'⟩)))
          · exact .inr h'
        · rw [if_neg h1] at hb
          exact .inl ((hG b).2 (.inr (.inr ⟨j, hj, hb⟩)))
  · unfold F17
    rw [decide_eq_false (show ¬ ((i : Nat) : Int) < 0 by omega), BIf_false, NN_mk]
    refine load_slice (i := 0) h.a rfl ?_
    rw [decide_eq_false (show ¬ ((i : Nat) : Int) ≥ ((Ps.length : Nat) : Int) by omega), BIf_false, NN_mk]
    refine load_slice (i := 0) h.a rfl ?_
    obtain ⟨q, rest, rfl, hB, _, _⟩ := h.o.get (by omega)
    rw [NN_mk, Req_iff, Int.toNat_natCast, add_mk, Nat.zero_add]
    refine ⟨by omega, load_any (v := rf n) hB ?_ hK⟩
    rw [List.getElem?_append_left (by have := (List.getElem?_eq_some_iff.1 e1).1; simpa using this), List.getElem?_map, e1]; rfl
end
end Go.Proofs.Ytooejhmelodiaaa.E
