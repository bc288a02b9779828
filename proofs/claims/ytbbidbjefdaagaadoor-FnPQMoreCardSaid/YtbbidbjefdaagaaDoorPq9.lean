/-
  FnPQTwice.
-/
import Derived.Test.YtbbidbjefdaagaaDoorPq8
import Derived.Test.YtbbidbjefdaagaaDoorRow
namespace Go.Proofs.YtbbidbjefdaagaaDoor.E
open Go Go.Sort
set_option linter.unusedSimpArgs false
set_option linter.unusedVariables false
set_option maxRecDepth 100000
set_option maxHeartbeats 4000000

theorem puts_pos {es : List Ent} {xs : List It2} {m : Nat} (h : Puts es xs m) (h0 : 0 < xs.length) : 0 < es.length := by
  cases es with
  | nil => have := h.2.1; simp at this; subst this; simp at h0
  | cons _ _ => simp
/-- Two rows of steps, one behind the other. -/
theorem append_steps {ty : TypeId} {cs : Array Bool} {f : Option Addr → Nat → Nat → W} {w : World} {p q : Option Addr} {l c m d : Nat} {es fs : List Ent} (h1 : OwnN w 40 3 p l c (sflat es)) (h2 : OwnN w 40 3 q m d (sflat fs)) (h0 : 0 < fs.length) (hb : es.length + fs.length < 10000)
    (hk : ∀ p' c' w', OwnN w' 40 3 p' (l + m) c' (sflat (es ++ fs)) → (∀ b, bl p' b → bl p b ∨ w.heap.size ≤ b) → Fr (fun b => bl p b) w w' → f p' (l + m) c' w') :
    NextT Tryd.prog (builtin .append #[33, 33] ty cs [.slice p l c, .slice q m d].toArray) (.s (.one .slice)) f w := by
  obtain ⟨ii, hi1, hi2, hi3, hi4⟩ := inf40
  have e1 := h1.1
  have e2 := h2.1
  rw [sflat_length] at e1 e2
  obtain ⟨a, rest, rfl, _⟩ := h2.get (by omega)
  refine append_own (P := Tryd.prog) und33 hi1 hi2 hi3 (by decide) rfl hi4 h1 (news := sflat fs) h2.1 (reads_own h2) (sflat_one _) (by omega) fun p' c' w' f' o' hp' => ?_
  rw [← sflat_append] at o'
  exact hk p' c' w' o' hp' f'
theorem append_ints {ty : TypeId} {cs : Array Bool} {f : Option Addr → Nat → Nat → W} {w : World} {p q : Option Addr} {l c m d : Nat} {xs ys : List Int} (h1 : Own w 3 p l c (ints xs)) (h2 : Own w 3 q m d (ints ys)) (h0 : 0 < ys.length) (hb : xs.length + ys.length < 10000)
    (hk : ∀ p' c' w', Own w' 3 p' (l + m) c' (ints (xs ++ ys)) → (∀ b, bl p' b → bl p b ∨ w.heap.size ≤ b) → Fr (fun b => bl p b) w w' → f p' (l + m) c' w') :
    NextT Tryd.prog (builtin .append #[29, 29] ty cs [.slice p l c, .slice q m d].toArray) (.s (.one .slice)) f w := by
  obtain ⟨ii, hi1, hi2, hi3, hi4⟩ := inf3
  have e1 := h1.1
  have e2 := h2.1
  rw [ints_length] at e1 e2
  obtain ⟨a, rest, rfl, _⟩ := h2.get (by omega)
  refine append_own (P := Tryd.prog) und29 hi1 hi2 hi3 (by decide) rfl hi4 h1.toN (news := ints ys) (by simp; omega) (reads_ints h2.ints) (ints_one _) (by omega) fun p' c' w' f' o' hp' => ?_
  have o' := Own.ofN o'
  rw [← ints_append] at o'
  exact hk p' c' w' o' hp' f'
theorem F4_spec {k : Value → W} {w : World} {p : Option Addr} {l c : Nat} {xs : List Int} (hX : Shorts w p xs) (hl : l = xs.length) (hx : I16 xs)
    (hk : ∀ w', Fr (fun _ => False) w w' → k (.bool true) w') : F4 k p l c w := by
  have hw := hk w (Fr.refl _ _)
  subst hl
  unfold F4
  refine BIf_intro (fun _ => hw) fun _ => ?_
  refine F5_call (F5_spec (back_bool hw) fun h0 _ => back_bool ?_)
  simp only [Bool.not_true, BIf_false]
  refine BIf_intro (fun _ => hw) fun g1 => ?_
  have g1 := of_decide_eq_false g1
  refine F6_call (F6_spec hX rfl (by omega) hx fun q3 c3 w1 o1 hq1 f1 => back_slice ?_)
  have htl := tag_length xs 0
  have htk := tag_key xs 0
  have htn := tag_nodup xs 0
  generalize tag 0 xs = T at *
  have hc3 : xs.length ≤ c3 := by
    rcases o1.2 with ⟨_, h, _⟩ | ⟨_, _, _, _, _, h, _⟩
    · omega
    · exact h
  refine F7_call (F7_spec o1.pairs htl.symm hc3 (by omega) (by omega) fun q4 l4 c4 w2 o2 hq2 f2 => back_sb ?_)
  rw [htk] at o2
  have hl4 : l4 = xs.length := by have := o2.1; rw [ints_length, srt_len] at this; exact this.symm
  subst hl4
  have E2 := o1.pairs.fr0 f2
  refine F11_call (F11_spec (most := 30) E2 htl.symm hc3 (by omega) (by decide) (by decide) fun es q6 c6 w3 P3 k3 S3 hq3 f3 => back_slice ?_)
  refine F11_call (F11_spec (most := 3) (E2.fr0 f3) htl.symm hc3 (by omega) (by decide) (by decide) fun fs q7 c7 w4 P4 k4 S4 hq4 f4 => back_slice ?_)
  have z3 := puts_pos P3 (by omega)
  have z4 := puts_pos P4 (by omega)
  have l3 := P3.2.2
  have l4 := P4.2.2
  refine append_steps (S3.own.fr f4 fun _ _ h => h) S4.own z4 (by omega) fun q8 c8 w5 o5 hq5 f5 => ?_
  have f24 := f3.trans f4 fun _ h => h.elim
  have f25 : Fr (fun _ => False) w2 w5 := f24.trans f5 fun b hb => .inr (hq3 b hb)
  have f35 : Fr (fun _ => False) w2 w3 := f3
  have PP := P3.append P4
  have hm : max 30 3 = 30 := rfl
  rw [hm] at PP
  have k5 : EOk w5 (es ++ fs) := by
    exact EOk.append (k3 w5 (E2.fr0 f25)) (k4 w5 (E2.fr0 f25))
  have S5 : StepsAt w5 q8 (es.length + fs.length) c8 (es ++ fs) := ⟨o5, k5⟩
  have z5 : 0 < (es ++ fs).length := by simp only [List.length_append]; omega
  refine F10_call (F10_spec (N := 1000) S5 z5 (by simp only [List.length_append]; omega) fun q9 c9 w6 S6 hq6 f6 => back_slice ?_)
  have hFin : ∀ dup, Fine dup ((es ++ fs ++ [Ent.mk 2 1000 none 0 []]).map Ent.st) := fun dup => Fine.once PP (by decide) (by simp only [List.length_append]; omega) (by decide) (by decide)
  refine F12_call (F12_spec S6 (by simp only [List.length_append, List.length_singleton]; omega) (hFin false) fun os C q10 l10 c10 w7 hR o7 hp7 f7 => back_sb ?_)
  rw [Run.once PP (by simp only [List.length_append]; omega) hR, addAll_append, addAll_new T [] (by simpa using htn), List.nil_append, addAll_old T T (fun x h => h), htk] at o7
  have hl10 : l10 = xs.length := by have := o7.1; rw [ints_length, srt_len] at this; exact this.symm
  subst hl10
  have f57 := f6.trans f7 fun _ h => h.elim
  refine F10_call (F10_spec (N := 1000) (StepsAt.fr (T := fun _ => False) S5 f57) z5 (by simp only [List.length_append]; omega) fun q12 c12 w8 S8 hq8 f8 => back_slice ?_)
  refine F12_call (F12_spec S8 (by simp only [List.length_append, List.length_singleton]; omega) (hFin true) fun os' C' q13 l13 c13 w9 hR' o9 hp9 f9 => back_sb ?_)
  rw [Run.once PP (by simp only [List.length_append]; omega) hR', addAll_true, List.nil_append, List.map_append, htk] at o9
  simp only [BIf_true]
  have f79 := f8.trans f9 fun _ h => h.elim
  have f59 := f57.trans f79 fun _ h => h.elim
  have f29 := f25.trans f59 fun _ h => h.elim
  have o29 := o2.fr f29 fun _ _ h => h
  have o79 := o7.fr f79 fun _ _ h => h
  refine F13_call (F13_spec o29.ints o79.ints (srt_len xs).symm (srt_len xs).symm (by rw [srt_len]; omega) fun wa fa => back_bool ?_)
  rw [decide_eq_true rfl]
  simp only [BIf_true]
  refine append_ints (o29.fr fa fun _ _ h => h) (o79.fr fa fun _ _ h => h) (by rw [srt_len]; exact h0) (by rw [srt_len]; omega) fun q16 c16 wb ob hqb fb => ?_
  have hs2 := srt_len xs
  refine F8_call (F8_spec ob.ints (by rw [List.length_append, hs2]) (by rw [List.length_append]; omega) (by rw [List.length_append]; omega) fun q17 c17 wc oc fc => back_slice ?_)
  have e2 : srt (srt xs ++ srt xs) = srt (xs ++ xs) := srt_eq ((srt_perm xs).append (srt_perm xs))
  rw [e2] at oc
  have hl13 : l13 = xs.length + xs.length := by have := o9.1; rw [ints_length, srt_len, List.length_append] at this; exact this.symm
  subst hl13
  -- what came out of the second queue lies elsewhere
  have h4 : ∀ b, bl q4 b → b < w2.heap.size := fun b hb => o2.lt hb
  have h13 : ∀ b, bl q13 b → w2.heap.size ≤ b := fun b hb => by
    have := hp9 b hb
    have h1 := (f25.trans f57 fun _ h => h.elim).trans f8 fun _ h => h.elim
    have := h1.size; omega
  have o9b : Own wb 3 q13 (xs.length + xs.length) c13 (ints (srt (xs ++ xs))) := (o9.fr fa fun _ _ h => h).fr fb fun b hb hb' => by have := h4 b hb'; have := h13 b hb; omega
  have hs3 := srt_len (xs ++ xs)
  rw [List.length_append] at hs3
  refine F13_call (F13_spec oc.ints (o9b.fr fc fun _ _ h => h).ints hs3.symm hs3.symm (by omega) fun wd fd => back_bool ?_)
  rw [decide_eq_true rfl]
  refine hk wd ?_
  have f0a := ((f1.trans f2 fun _ h => h.elim).trans f29 fun _ h => h.elim).trans fa fun _ h => h.elim
  refine ((f0a.trans fb fun b hb => .inr ?_).trans fc fun _ h => h.elim).trans fd fun _ h => h.elim
  have := hq2 b hb
  have := f1.size
  omega
theorem shorts_of {w : World} {a : Option Addr} {len cap : Nat} {zs : List Int} (h : IsRow .i16 w a len cap zs) : Shorts w a (zs.take len) ∧ len = (zs.take len).length ∧ I16 (zs.take len) := by
  rcases h with ⟨rfl, rfl, rfl, rfl⟩ | ⟨x, rfl, h1, h2, h3, h4, h5⟩
  · exact ⟨fun i x hx => by simp at hx, rfl, fun x hx => by simp at hx⟩
  · refine ⟨fun i y hy => ⟨x, rfl, ?_⟩, by simp; omega, fun y hy => wf_i16 (h5 y (List.mem_of_mem_take hy))⟩
    have hi : i < (zs.take len).length := (List.getElem?_eq_some_iff.1 hy).1
    simp only [List.length_take] at hi
    rw [h4 i (by omega)]
    rw [List.getElem?_take, if_pos (by omega)] at hy
    rw [List.getD_eq_getElem?_getD, hy]; rfl
end Go.Proofs.YtbbidbjefdaagaaDoor.E
