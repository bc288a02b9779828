/-
  What scripts give, in plain words; the example; FnPQTwice.
-/
import Derived.Test.YtbbidbjefdaagaaDoorPq7
namespace Go.Proofs.YtbbidbjefdaagaaDoor.E
open Go Go.Sort
set_option linter.unusedSimpArgs false
set_option linter.unusedVariables false
set_option maxRecDepth 100000
set_option maxHeartbeats 4000000

theorem Run.inv {dup : Bool} {ss : List Stp} {s : Stp} {os : List (List It2)} {C : List It2} (h : Run dup (ss ++ [s]) os C) :
    ∃ os' C' ys, Run dup ss os' C' ∧ os = os' ++ [ys] ∧ (s.1 = 1 → ys = [] ∧ C.Perm (addAll dup C' s.2.2)) ∧ (s.1 = 2 → Got C' ys C ∧ ys.length = min s.2.1 C'.length) := by
  generalize ht : ss ++ [s] = t at h
  cases h with
  | nil => simp at ht
  | @put ss' os' C' _ n xs h1 h2 =>
    obtain ⟨rfl, e⟩ := List.append_inj' ht rfl
    simp only [List.cons.injEq, and_true] at e
    subst e
    exact ⟨os', C', [], h1, rfl, fun _ => ⟨rfl, h2⟩, fun h => by cases h⟩
  | @get ss' os' C' _ n xs ys h1 h2 h3 =>
    obtain ⟨rfl, e⟩ := List.append_inj' ht rfl
    simp only [List.cons.injEq, and_true] at e
    subst e
    exact ⟨os', C', ys, h1, rfl, fun h => (by cases h), fun _ => ⟨h2, h3⟩⟩
theorem addAll_append (dup : Bool) : ∀ (xs ys C : List It2), addAll dup C (xs ++ ys) = addAll dup (addAll dup C xs) ys
  | [], _, _ => rfl
  | x :: xs, ys, C => addAll_append dup xs ys (addD dup C x)
theorem addAll_ge (dup : Bool) : ∀ (xs C : List It2), C.length ≤ (addAll dup C xs).length
  | [], _ => Nat.le_refl _
  | x :: xs, C => by
    have h1 := addAll_ge dup xs (addD dup C x)
    have h2 : C.length ≤ (addD dup C x).length := by unfold addD; split <;> simp
    exact Nat.le_trans h2 h1
theorem addAll_true : ∀ (xs C : List It2), addAll true C xs = C ++ xs
  | [], C => by simp [addAll]
  | x :: xs, C => by simp [addAll, addD, addAll_true xs]
theorem addAll_new : ∀ (xs C : List It2), (C ++ xs).Nodup → addAll false C xs = C ++ xs
  | [], C, _ => by simp [addAll]
  | x :: xs, C, h => by
    have hx : x ∉ C := fun hc => (List.nodup_append.1 h).2.2 x hc x (List.mem_cons_self ..) rfl
    have h' : (C ++ [x] ++ xs).Nodup := by rw [List.append_assoc]; exact h
    simp only [addAll, addD, if_pos (Or.inr hx : false = true ∨ x ∉ C)]
    rw [addAll_new xs (C ++ [x]) h', List.append_assoc]; rfl
theorem addAll_old : ∀ (xs C : List It2), (∀ x ∈ xs, x ∈ C) → addAll false C xs = C
  | [], _, _ => rfl
  | x :: xs, C, h => by
    have hx := h x (List.mem_cons_self ..)
    simp only [addAll, addD]
    rw [if_neg (by simp [hx])]
    exact addAll_old xs C fun y hy => h y (List.mem_cons_of_mem _ hy)
/-- Puts behind a script. -/
theorem Run.puts {dup : Bool} : ∀ (n : Nat) (ps ss : List Stp) (os : List (List It2)) (C : List It2), ps.length = n → (∀ s ∈ ps, s.1 = 1) → Run dup (ss ++ ps) os C → ∃ os' C', Run dup ss os' C' ∧ os.flatten = os'.flatten ∧ C.Perm (addAll dup C' (ps.map fun s => s.2.2).flatten)
  | 0, ps, ss, os, C, hn, hp, h => by
    have := List.length_eq_zero_iff.1 hn
    subst this
    rw [List.append_nil] at h
    exact ⟨os, C, h, rfl, .refl _⟩
  | n + 1, ps, ss, os, C, hn, hp, h => by
    rcases List.eq_nil_or_concat ps with e | ⟨qs, s, e⟩
    · subst e; simp at hn
    · subst e
      rw [List.concat_eq_append] at *
      rw [← List.append_assoc] at h
      obtain ⟨os1, C1, ys, h1, rfl, h2, _⟩ := h.inv
      obtain ⟨rfl, h3⟩ := h2 (hp s (List.mem_append_right _ (List.mem_singleton.2 rfl)))
      obtain ⟨os2, C2, g1, g2, g3⟩ := Run.puts n qs ss os1 C1 (by simpa using hn) (fun t ht => hp t (List.mem_append_left _ ht)) h1
      refine ⟨os2, C2, g1, by simp [g2], h3.trans ?_⟩
      rw [List.map_append, List.flatten_append, addAll_append]
      simpa using addAll_perm s.2.2 g3
theorem Run.blank {dup : Bool} {os : List (List It2)} {C : List It2} (h : Run dup [] os C) : os = [] ∧ C = [] := by
  generalize ht : ([] : List Stp) = t at h
  cases h with
  | nil => exact ⟨rfl, rfl⟩
  | put _ _ => simp at ht
  | get _ _ _ => simp at ht
theorem puts_st {es : List Ent} {xs : List It2} {m : Nat} (h : Puts es xs m) : (∀ s ∈ es.map Ent.st, s.1 = 1) ∧ ((es.map Ent.st).map fun s => s.2.2).flatten = xs := by
  refine ⟨fun s hs => ?_, ?_⟩
  · obtain ⟨e, he, rfl⟩ := List.mem_map.1 hs
    exact (h.1 e he).1
  · rw [List.map_map]; exact h.2.1
theorem Puts.append {es fs : List Ent} {xs ys : List It2} {m n : Nat} (h : Puts es xs m) (h' : Puts fs ys n) : Puts (es ++ fs) (xs ++ ys) (max m n) :=
  ⟨fun e he => (List.mem_append.1 he).elim (fun he => ⟨(h.1 e he).1, by have := (h.1 e he).2; omega⟩) fun he => ⟨(h'.1 e he).1, by have := (h'.1 e he).2; omega⟩, by rw [List.map_append, List.flatten_append, h.2.1, h'.2.1], by simp only [List.length_append]; have := h.2.2; have := h'.2.2; omega⟩
theorem Got.all {C ys D : List It2} {n : Nat} (h : Got C ys D) (hl : ys.length = min n C.length) (hn : C.length ≤ n) : D = [] ∧ ys.Perm C := by
  have h1 := h.1.length_eq
  rw [List.length_append] at h1
  have : D = [] := List.length_eq_zero_iff.1 (by omega)
  subst this
  exact ⟨rfl, by simpa using h.1⟩
theorem got_keys {C ys : List It2} (h : Up ys) (hp : ys.Perm C) : ys.map key = srt (C.map key) :=
  asc_eq (List.pairwise_map.2 h) (srt_asc _) ((hp.map key).trans (srt_perm _).symm)
/-- Elements put, and all taken out. -/
theorem Run.once {dup : Bool} {es : List Ent} {xs : List It2} {m N : Nat} {os : List (List It2)} {C : List It2} (hP : Puts es xs m) (hN : xs.length ≤ N) (h : Run dup ((es ++ [Ent.mk 2 N none 0 []]).map Ent.st) os C) : os.flatten.map key = srt ((addAll dup [] xs).map key) := by
  rw [List.map_append] at h
  obtain ⟨os1, C1, ys, h1, rfl, _, h2⟩ := Run.inv (s := (2, N, [])) h
  obtain ⟨g, hl⟩ := h2 rfl
  obtain ⟨hp1, hp2⟩ := puts_st hP
  obtain ⟨os2, C2, g1, g2, g3⟩ := Run.puts _ (es.map Ent.st) [] os1 C1 rfl hp1 (by simpa using h1)
  obtain ⟨rfl, rfl⟩ := g1.blank
  rw [hp2] at g3
  have hle := addAll_len dup xs []
  have hl1 := g3.length_eq
  obtain ⟨_, hy⟩ := g.all hl (by simp only [List.length_nil] at hle; simp only at *; omega)
  rw [List.flatten_append, g2]
  simp only [List.flatten_nil, List.nil_append, List.flatten_cons, List.append_nil]
  exact got_keys g.2.1 (hy.trans g3)
theorem Fine.once {dup : Bool} {es : List Ent} {xs : List It2} {m N : Nat} (hP : Puts es xs m) (hm : m ≤ 100) (h0 : 0 < xs.length) (hN0 : 0 < N) (hN : N < 100000) : Fine dup ((es ++ [Ent.mk 2 N none 0 []]).map Ent.st) := by
  obtain ⟨hp1, hp2⟩ := puts_st hP
  rw [List.map_append]
  refine ⟨fun s hs => ?_, fun i n ys hi os C hR => ?_⟩
  · rcases List.mem_append.1 hs with hs | hs
    · obtain ⟨e, he, rfl⟩ := List.mem_map.1 hs
      have := hP.1 e he
      have h2 := this.2
      exact ⟨by show e.xs.length ≤ 100; omega, .inl this.1⟩
    · simp only [List.map_cons, List.map_nil, List.mem_singleton] at hs
      subst hs
      exact ⟨by simp [Ent.st], .inr ⟨rfl, hN0, hN⟩⟩
  · have hi' : i = (es.map Ent.st).length := by
      rcases Nat.lt_trichotomy i (es.map Ent.st).length with h | h | h
      · rw [List.getElem?_append_left h] at hi
        have := hp1 _ (List.mem_of_getElem? hi)
        cases this
      · exact h
      · have := (List.getElem?_eq_some_iff.1 hi).1
        simp only [List.length_append, List.map_cons, List.map_nil, List.length_singleton] at this; omega
    subst hi'
    rw [List.take_left'] at hR
    · obtain ⟨os2, C2, g1, g2, g3⟩ := Run.puts _ (es.map Ent.st) [] os C rfl hp1 (by simpa using hR)
      obtain ⟨rfl, rfl⟩ := g1.blank
      rw [hp2] at g3
      rw [g3.length_eq]
      cases xs with
      | nil => simp at h0
      | cons x xs =>
        have := addAll_ge dup xs (addD dup [] x)
        have h2 : (addD dup [] x).length = 1 := by simp [addD]
        show 0 < (addAll dup (addD dup [] x) xs).length
        omega
    · rfl
theorem back_sb {f : Option Addr → Nat → Nat → Bool → W} {p : Option Addr} {l c : Nat} {b : Bool} {w : World} (h : f p l c b w) : Back (.tup [(.one .slice), (.one .bool)]) f (.returned (.tuple #[.slice p l c, .bool b])) w := ⟨((p, l, c), b, ()), rfl, h⟩
theorem fill28b (x y x' y' : Int) : ∀ i : TypeInfo, i.size = 2 → Instr.fill (fun j => some (j * i.size, i.size)) ((Array.range (2 * i.size)).map (z28.cells[· % z28.cells.size]!)) [(0, .agg #[.int .i64 x, .int .i64 y]), (1, .agg #[.int .i64 x', .int .i64 y'])] = some (flat [(x, y), (x', y')]).toArray := by
  intro i h
  rw [h]
  kernel_rfl
theorem fill40b (e e' : Ent) : ∀ i : TypeInfo, i.size = 3 → Instr.fill (fun j => some (j * i.size, i.size)) ((Array.range (2 * i.size)).map (z40.cells[· % z40.cells.size]!)) [(0, .agg #[.int .i64 e.op, .int .i64 (e.n : Nat), .slice e.ip e.xs.length e.ic]), (1, .agg #[.int .i64 e'.op, .int .i64 (e'.n : Nat), .slice e'.ip e'.xs.length e'.ic])] = some (sflat [e, e']).toArray := by
  intro i h
  rw [h]
  kernel_rfl
theorem fill3b (x y : Int) : ∀ i : TypeInfo, i.size = 1 → Instr.fill (fun j => some (j * i.size, i.size)) ((Array.range (2 * i.size)).map ((Value.int .i64 0).cells[· % (Value.int .i64 0).cells.size]!)) [(0, .int .i64 x), (1, .int .i64 y)] = some (ints [x, y]).toArray := by
  intro i h
  rw [h]
  kernel_rfl
theorem ints_of_blk {w : World} {e : TypeId} {q : Nat} {xs : List Int} (h : Blk w q e (ints xs)) : Ints w (some ⟨q, 0, none⟩) xs := fun i x hx => ⟨_, rfl, by rw [add_mk, Nat.zero_add, h.cell, ints_get, hx]; rfl⟩
/-- dxQueue. -/
theorem F7_spec {k : Value → W} {w : World} {p : Option Addr} {l c : Nat} {xs : List It2} (hE : Edges w p xs) (hl : l = xs.length) (hc : l ≤ c) (h0 : 0 < xs.length) (hb : xs.length ≤ 30)
    (hk : ∀ p' l' c' w', Own w' 3 p' l' c' (ints (srt (xs.map key))) → (∀ b, bl p' b → w.heap.size ≤ b) → Fr (fun _ => False) w w' → k (.tuple #[.slice p' l' c', .bool true]) w') : F7 k p l c w := by
  subst hl
  unfold F7
  obtain ⟨i28, g1, g2, g3, g4⟩ := inf28
  obtain ⟨i40, s1, s2, s3, s4⟩ := inf40
  obtain ⟨i3, t1, t2, t3, t4⟩ := inf3
  refine build_intro und25 g1 g2 (by omega) (by omega) (fill28b 5 0 3 1 i28 g3) fun w1 f1 b1 z1 => ?_
  have e1 : Edges w1 (some ⟨w.heap.size, 0, none⟩) [(5, 0), (3, 1)] := (OwnN.made (n := 2) b1 rfl (by decide)).pairs
  refine build_intro und33 s1 s2 (by omega) (by omega) (fill40b ⟨1, 0, some ⟨w.heap.size, 0, none⟩, 2, [(5, 0), (3, 1)]⟩ ⟨2, 9, none, 0, []⟩ i40 s3) fun w2 f2 b2 z2 => ?_
  have P0 : Puts [⟨1, 0, some ⟨w.heap.size, 0, none⟩, 2, [(5, 0), (3, 1)]⟩] [(5, 0), (3, 1)] 2 := ⟨fun e he => by simp only [List.mem_singleton] at he; subst he; exact ⟨rfl, Nat.le_refl _⟩, rfl, by simp⟩
  have S2 : StepsAt w2 (some ⟨w1.heap.size, 0, none⟩) 2 2 ([⟨1, 0, some ⟨w.heap.size, 0, none⟩, 2, [(5, 0), (3, 1)]⟩] ++ [⟨2, 9, none, 0, []⟩]) := by
    refine ⟨OwnN.made (n := 2) b2 rfl (by decide), EOk.append (fun e he => ?_) EOk.take⟩
    simp only [List.mem_singleton] at he
    subst he
    exact e1.fr0 f2
  refine F12_call (F12_spec S2 (by simp) (Fine.once (N := 9) P0 (by decide) (by decide) (by decide) (by decide)) fun os C p3 l3 c3 w3 hR o3 hp3 f3 => back_sb ?_)
  rw [Run.once P0 (by decide) hR, addAll_true] at o3
  have f03 := (f1.trans f2 fun _ h => h.elim).trans f3 fun _ h => h.elim
  refine F11_call (F11_spec (hE.fr0 f03) rfl hc (by omega) h0 (by omega) fun es q4 c4 w4 P4 k4 S4 hq4 f4 => back_slice ?_)
  have h04 : 0 < es.length := by
    cases es with
    | nil => have := P4.2.1; simp at this; subst this; simp at h0
    | cons _ _ => simp
  have hel := P4.2.2
  refine F10_call (F10_spec (N := 1000) S4 h04 (by omega) fun q5 c5 w5 S5 hq5 f5 => back_slice ?_)
  refine F12_call (F12_spec S5 (by simp; omega) (Fine.once P4 (by omega) h0 (by decide) (by decide)) fun os' C' p6 l6 c6 w6 hR' o6 hp6 f6 => back_sb ?_)
  rw [Run.once P4 (by omega) hR', addAll_true, List.nil_append] at o6
  simp only [BIf_true]
  refine build_intro und29 t1 t2 (by omega) (by omega) (fill3b 3 5 i3 t3) fun w7 f7 b7 z7 => ?_
  have f37 := ((f4.trans f5 fun _ h => h.elim).trans f6 fun _ h => h.elim).trans f7 fun _ h => h.elim
  have hs35 : srt ([(5, 0), (3, 1)].map key) = [3, 5] := asc_eq (srt_asc _) (by decide) ((srt_perm _).trans (List.Perm.swap 3 5 []))
  rw [List.nil_append, hs35] at o3
  have hl3 : l3 = 2 := by have := o3.1; simpa using this.symm
  subst hl3
  refine F13_call (F13_spec (o3.fr f37 fun _ _ h => h).ints (ints_of_blk b7) rfl rfl (by decide) fun w8 f8 => back_bool ?_)
  rw [decide_eq_true rfl]
  have f78 := f7.trans f8 fun _ h => h.elim
  have f05 := (f03.trans f4 fun _ h => h.elim).trans f5 fun _ h => h.elim
  exact hk p6 l6 c6 w8 (o6.fr f78 fun _ _ h => h) (fun b hb => by have := hp6 b hb; have := f05.size; omega) ((f05.trans f6 fun _ h => h.elim).trans f78 fun _ h => h.elim)
end Go.Proofs.YtbbidbjefdaagaaDoor.E
