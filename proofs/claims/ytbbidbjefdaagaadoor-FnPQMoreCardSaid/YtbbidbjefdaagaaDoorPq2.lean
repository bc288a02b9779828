/-
  The queue in memory: made, elements put, elements got.
-/
import Derived.Test.YtbbidbjefdaagaaDoorPq1
namespace Go.Proofs.YtbbidbjefdaagaaDoor.E
open Go
set_option linter.unusedSimpArgs false
set_option linter.unusedVariables false
set_option maxRecDepth 100000
set_option maxHeartbeats 4000000

/-! ## Keys of the map -/
def elems (S : List It2) : List (It2 × Value) := S.map fun x => (x, .agg #[])
theorem getL_elems (a : It2) : ∀ l : List It2, getL a (elems l) = if a ∈ l then some (.agg #[]) else none
  | [] => by simp [elems, getL]
  | x :: l => by
    have := getL_elems a l
    unfold elems at this ⊢
    simp only [List.map_cons, getL, this]
    by_cases h : a = x
    · simp [h]
    · simp [h]
theorem putL_new {a : It2} {v : Value} {l : List (It2 × Value)} (h : getL a l = none) : putL a v l = l ++ [(a, v)] := by
  have := idx_get a l 0
  rw [h] at this
  exact putL_push (i := 0) (by simpa using this)
theorem delL_elems (a : It2) : ∀ l : List It2, delL a (elems l) = elems (l.erase a)
  | [] => rfl
  | x :: l => by
    have := delL_elems a l
    unfold elems at this ⊢
    simp only [List.map_cons, delL, List.erase_cons]
    by_cases h : a = x
    · subst h; simp
    · rw [if_neg h, show (x == a) = false by simpa using fun e => h e.symm, this]; rfl
/-- What is put adds to what is there. -/
def addD (dup : Bool) (C : List It2) (x : It2) : List It2 := if dup = true ∨ x ∉ C then C ++ [x] else C
def addAll (dup : Bool) : List It2 → List It2 → List It2
  | C, [] => C
  | C, x :: xs => addAll dup (addD dup C x) xs
theorem addAll_snoc (dup : Bool) (x : It2) : ∀ (xs C : List It2), addAll dup C (xs ++ [x]) = addD dup (addAll dup C xs) x
  | [], _ => rfl
  | y :: ys, C => addAll_snoc dup x ys (addD dup C y)
theorem addD_perm {dup : Bool} {C C' : List It2} (h : C.Perm C') (x : It2) : (addD dup C x).Perm (addD dup C' x) := by
  unfold addD
  by_cases hx : dup = true ∨ x ∉ C
  · rw [if_pos hx, if_pos (by rwa [h.mem_iff] at hx)]; exact h.append_right _
  · rw [if_neg hx, if_neg (by rwa [h.mem_iff] at hx)]; exact h
theorem addAll_perm {dup : Bool} : ∀ (xs : List It2) {C C' : List It2}, C.Perm C' → (addAll dup C xs).Perm (addAll dup C' xs)
  | [], _, _, h => h
  | x :: xs, _, _, h => addAll_perm xs (addD_perm h x)
theorem addD_len (dup : Bool) (C : List It2) (x : It2) : (addD dup C x).length ≤ C.length + 1 := by unfold addD; split <;> simp
theorem addAll_len (dup : Bool) : ∀ (xs C : List It2), (addAll dup C xs).length ≤ C.length + xs.length
  | [], C => by simp [addAll]
  | x :: xs, C => by
    have h1 := addAll_len dup xs (addD dup C x)
    have h2 := addD_len dup C x
    simp only [addAll, List.length_cons]; omega

def MOk (dup : Bool) (C ks : List It2) : Prop := if dup = true then ks = [] else ks.Perm C ∧ C.Nodup
theorem MOk.perm {dup : Bool} {C C' ks : List It2} (h : MOk dup C ks) (hp : C.Perm C') : MOk dup C' ks := by
  unfold MOk at h ⊢
  split
  · rename_i e; rw [if_pos e] at h; exact h
  · rename_i e; rw [if_neg e] at h; exact ⟨h.1.trans hp, hp.nodup_iff.1 h.2⟩
theorem eraseAll_nil : ∀ ys : List It2, ys.foldl List.erase [] = []
  | [] => rfl
  | y :: ys => eraseAll_nil ys
theorem eraseAll_perm : ∀ (ys : List It2) {ks C : List It2}, ks.Perm (ys ++ C) → (ys.foldl List.erase ks).Perm C
  | [], _, _, h => h
  | y :: ys, ks, C, h => by
    refine eraseAll_perm ys ?_
    have := h.erase y
    rwa [List.cons_append, List.erase_cons_head] at this
theorem MOk.erase {dup : Bool} {C ks ys D : List It2} (h : MOk dup C ks) (hp : (ys ++ D).Perm C) : MOk dup D (ys.foldl List.erase ks) := by
  unfold MOk at h ⊢
  split
  · rename_i e; rw [if_pos e] at h; subst h; exact eraseAll_nil ys
  · rename_i e; rw [if_neg e] at h
    exact ⟨eraseAll_perm ys (h.1.trans hp.symm), (List.nodup_append.1 (hp.nodup_iff.2 h.2)).2.1⟩

/-! ## Elements in memory -/
def Its (w : World) (p : Option Addr) (xs : List It2) : Prop := ∀ i x, xs[i]? = some x → ∃ a, p = some a ∧ w.cell? (a.add i) = some (enc x)
theorem Its.fr {T : Nat → Prop} {w w' : World} {p : Option Addr} {xs : List It2} (h : Its w p xs) (f : Fr T w w') (hT : ∀ b, bl p b → ¬ T b) : Its w' p xs := fun i x hx => by
  obtain ⟨a, h1, h2⟩ := h i x hx
  subst h1
  have hb : (a.add i).block = a.block := by unfold Addr.add; split <;> rfl
  exact ⟨a, rfl, by rw [f.cell (cell_lt h2) (by rw [hb]; exact hT _ ⟨_, rfl, rfl⟩)]; exact h2⟩
theorem Its.fr0 {w w' : World} {p : Option Addr} {xs : List It2} (h : Its w p xs) (f : Fr (fun _ => False) w w') : Its w' p xs := h.fr f fun _ _ h => h
theorem Own.its {w : World} {p : Option Addr} {l c : Nat} {xs : List It2} (h : Own w 81 p l c (encs xs)) : Its w p xs := fun i x hx => by
  have hl : xs.length = l := by simpa using h.1
  have hi : i < xs.length := (List.getElem?_eq_some_iff.1 hx).1
  obtain ⟨q, rest, rfl, _, _, _⟩ := h.get (by omega)
  exact ⟨_, rfl, by rw [add_mk, Nat.zero_add, h.cell (by omega), encs_get, hx]; rfl⟩

/-- The queue at qb: its map at mb, its elements in block q. -/
structure PQ (w : World) (qb mb q l c : Nat) (dup : Bool) (f : Nat → It2) (ks : List It2) : Prop where
  head : Blk w qb 70 [.slice (some ⟨q, 0, none⟩) l c, .map (some mb), .bool false, .bool dup]
  own : AR w q c l f
  heap : HeapOn f l
  map : MapB w mb enc (elems ks)
  ok : MOk dup (seg f 0 l) ks
namespace PQ
variable {w : World} {qb mb q l c : Nat} {dup : Bool} {f : Nat → It2} {ks : List It2}
theorem fr {T : Nat → Prop} {w' : World} (h : PQ w qb mb q l c dup f ks) (g : Fr T w w') (hT : ∀ b, (b = qb ∨ b = mb ∨ b = q) → ¬ T b) : PQ w' qb mb q l c dup f ks :=
  ⟨h.head.fr g (hT _ (.inl rfl)), Own.fr h.own g fun b hb => hT b (by obtain ⟨a, ha, hb⟩ := hb; cases ha; exact .inr (.inr hb.symm)), h.heap, h.map.fr g (hT _ (.inr (.inl rfl))), h.ok⟩
theorem fr0 {w' : World} (h : PQ w qb mb q l c dup f ks) (g : Fr (fun _ => False) w w') : PQ w' qb mb q l c dup f ks := h.fr g fun _ _ h => h
theorem ne1 (h : PQ w qb mb q l c dup f ks) : q ≠ qb := fun e => by
  obtain ⟨us, hu⟩ := h.own.blk
  subst e
  exact absurd (hu.unique h.head).1 (by decide)
theorem ne2 (h : PQ w qb mb q l c dup f ks) : mb ≠ qb := h.map.not_blk h.head
theorem ne3 (h : PQ w qb mb q l c dup f ks) : mb ≠ q := by
  obtain ⟨us, hu⟩ := h.own.blk
  exact h.map.not_blk hu
theorem lt (h : PQ w qb mb q l c dup f ks) {b : Nat} (hb : b = qb ∨ b = mb ∨ b = q) : b < w.heap.size := by
  obtain ⟨us, hu⟩ := h.own.blk
  rcases hb with rfl | rfl | rfl
  · exact h.head.lt
  · exact h.map.lt
  · exact hu.lt
end PQ

theorem makeMap_hint {t kt el : TypeId} {n : Int} {f : Option Nat → W} {w : World} (ht : Tryd.prog.underlying t = some (.map kt el)) (hk : ∀ n w', n = w.heap.size → MapB w' n enc [] → Fr (fun _ => False) w w' → w'.heap.size = n + 1 → f (some n) w') :
    RawT Tryd.prog (Instr.makeMap t (some (.int .i64 n))) (.s (.one .map)) f w :=
  RawT_map (w' := w.alloc (.map #[] 0)) (p := some w.heap.size) (by simp [Instr.makeMap, run_underlying ht, asInt, asIntOf]) (hk _ _ rfl (MapB.new w) (Fr.alloc _ _ _) (by simp))
theorem heap_nil (f : Nat → It2) : HeapOn f 0 := fun i _ h => by omega
theorem mok_nil (dup : Bool) : MOk dup [] [] := by unfold MOk; split; rfl; exact ⟨.refl _, List.nodup_nil⟩
def f00 : Nat → It2 := fun _ => (0, 0)
theorem F19_spec {k : Value → W} {w : World} {n : Nat} {dup : Bool} (hn : n ≤ 1000)
    (hk : ∀ qb mb q c w', PQ w' qb mb q 0 c dup f00 [] → (∀ b, (b = qb ∨ b = mb ∨ b = q) → w.heap.size ≤ b) → Fr (fun _ => False) w w' → k (.pointer (some ⟨qb, 0, none⟩)) w') : F19 k (n : Nat) dup w := by
  unfold F19
  obtain ⟨i81, a1, a2, a3, a4⟩ := inf81
  refine drw_intro fun w1 f1 z1 => ⟨?_, ?_⟩
  · refine make_intro 0 n und67 a1 a2 a3 rfl (by omega) (by omega) (by omega) fun w2 f2 o2 b2 z2 => ?_
    refine makeMap_hint und68 fun mb w3 e3 m3 f3 z3 => ?_
    refine new_intro fun qb w4 e4 b4 f4 z4 => ?_
    refine hk qb mb w1.heap.size n w4 ⟨b4, (o2.fr f3 fun _ _ h => h).fr f4 fun _ _ h => h, heap_nil _, m3.fr f4 id, mok_nil dup⟩ (fun b hb => ?_) (((f1.trans f2 fun _ h => h.elim).trans f3 fun _ h => h.elim).trans f4 fun _ h => h.elim)
    rcases hb with rfl | rfl | rfl <;> omega
  · refine makeMap_hint und68 fun mb w2 e2 m2 f2 z2 => ?_
    refine make_intro 0 n und67 a1 a2 a3 rfl (by omega) (by omega) (by omega) fun w3 f3 o3 b3 z3 => ?_
    refine new_intro fun qb w4 e4 b4 f4 z4 => ?_
    refine hk qb mb w2.heap.size n w4 ⟨b4, o3.fr f4 fun _ _ h => h, heap_nil _, (m2.fr f3 id).fr f4 id, mok_nil dup⟩ (fun b hb => ?_) (((f1.trans f2 fun _ h => h.elim).trans f3 fun _ h => h.elim).trans f4 fun _ h => h.elim)
    rcases hb with rfl | rfl | rfl <;> omega

/-! ## Put -/
theorem lookup_spec {w : World} {mb : Nat} {ks : List It2} {x : It2} {f : Bool → W} (h : MapB w mb enc (elems ks)) (hk : f (decide (x ∈ ks)) w) :
    RawS Tryd.prog (Instr.lookup 68 (.map (some mb)) (enc x) true) (.tup [(.agg []), (.one .bool)]) f w := by
  have hr := lookup_run und68 keyE (zero93 w) h x true
  rw [getL_elems] at hr
  by_cases hx : x ∈ ks
  · rw [if_pos hx] at hr; rw [decide_eq_true hx] at hk; exact ⟨(true, ()), hr, hk⟩
  · rw [if_neg hx] at hr; rw [decide_eq_false hx] at hk; exact ⟨(false, ()), hr, hk⟩
def PutI (w : World) (qb mb q : Nat) (dup : Bool) (C xs : List It2) (i : Nat) (w' : World) : Prop :=
  ∃ (q' l' c' : Nat) (g : Nat → It2) (ks' : List It2), PQ w' qb mb q' l' c' dup g ks' ∧ (seg g 0 l').Perm (addAll dup C (xs.take i)) ∧ (q' = q ∨ w.heap.size ≤ q') ∧ Fr (fun b => b = qb ∨ b = mb ∨ b = q) w w'
theorem F33_spec {k : Value → W} {w : World} {qb mb q l c : Nat} {dup : Bool} {f : Nat → It2} {ks xs : List It2} {ip : Option Addr} {ic : Nat} (hQ : PQ w qb mb q l c dup f ks) (hI : Its w ip xs) (hip : ∀ b, bl ip b → b ≠ qb ∧ b ≠ mb ∧ b ≠ q ∧ b < w.heap.size) (hb : l + xs.length < 100000)
    (hk : ∀ q' l' c' g ks' w', PQ w' qb mb q' l' c' dup g ks' → (seg g 0 l').Perm (addAll dup (seg f 0 l) xs) → (q' = q ∨ w.heap.size ≤ q') → Fr (fun b => b = qb ∨ b = mb ∨ b = q) w w' → k .nilIface w') : F33 k (some ⟨qb, 0, none⟩) ip xs.length ic w := by
  unfold F33
  by_cases h0 : xs.length = 0
  · rw [h0]
    simp only [show (((0 : Nat) : Int) == 0) = true from rfl, BIf_true]
    have := List.length_eq_zero_iff.1 h0
    subst this
    exact hk q l c f ks w hQ (.refl _) (.inl rfl) (Fr.refl _ _)
  rw [show (((xs.length : Nat) : Int) == 0) = false by rw [beq_eq_false_iff_ne]; omega]
  simp only [BIf_false, NN_mk]
  refine load_bool (i := 2) hQ.head rfl ?_
  simp only [BIf_false]
  refine F33_L1_rule (fun pp sp sl sc x8 x9 w' => pp = some ⟨qb, 0, none⟩ ∧ sp = ip ∧ sl = xs.length ∧ x8 = (xs.length : Nat) ∧ ∃ i : Nat, x9 = i ∧ i ≤ xs.length ∧ PutI w qb mb q dup (seg f 0 l) xs i w')
    (fun _ _ _ _ x8 x9 _ => (x8 - x9).toNat) ?_ ⟨rfl, rfl, rfl, rfl, 0, rfl, Nat.zero_le _, q, l, c, f, ks, hQ, .refl _, .inl rfl, Fr.refl _ _⟩
  rintro pp sp sl sc x8 x9 w2 ⟨rfl, e1, e2, rfl, i, rfl, hi, q', l', c', g, ks', Q2, p2, hq2, f2⟩
  obtain rfl := e1.symm; obtain rfl := e2.symm
  unfold F33_L1
  by_cases hil : i < xs.length
  rotate_left
  · have : i = xs.length := by omega
    subst this
    rw [decide_eq_false (by omega)]
    rw [List.take_length] at p2
    simp only [BIf_false]
    exact hk q' l' c' g ks' w2 Q2 p2 hq2 f2
  rw [decide_eq_true (by omega)]
  have hget : xs[i]? = some (xs[i]'(by omega)) := List.getElem?_eq_getElem _
  generalize xs[i]'(by omega) = x at hget
  obtain ⟨a, rfl, hc⟩ := hI.fr f2 (fun b hb e => by obtain ⟨h1, h2, h3, h4⟩ := hip b hb; rcases e with e | e | e <;> contradiction) i x hget
  simp only [BIf_true, NN_mk, Int.toNat_natCast]
  refine ⟨by omega, LoadT_any.2 ⟨_, hc, ?_⟩⟩
  refine load_bool (i := 3) Q2.head rfl ?_
  have hll : l' ≤ l + i := by
    have h1 := p2.length_eq
    have h2 := addAll_len dup (xs.take i) (seg f 0 l)
    have h3 : (xs.take i).length = i := by simp; omega
    rw [seg_length] at h1 h2; omega
  have hsz := f2.size
  have foot : ∀ b, (b = q' ∨ b = qb ∨ b = mb) → (b = qb ∨ b = mb ∨ b = q) ∨ w.heap.size ≤ b := fun b h => by
    rcases h with h | h | h
    · rcases hq2 with h' | h'
      · exact .inl (.inr (.inr (h.trans h')))
      · exact .inr (by omega)
    · exact .inl (.inl h)
    · exact .inl (.inr (.inl h))
  rw [add_one (by omega)]
  -- the push, and what then holds
  have push : ∀ (w3 : World) (ks3 : List It2) (K : Value → W), Blk w3 qb 70 [.slice (some ⟨q', 0, none⟩) l' c', .map (some mb), .bool false, .bool dup] → AR w3 q' c' l' g → MapB w3 mb enc (elems ks3) → MOk dup (seg g 0 l' ++ [x]) ks3 → (dup = true ∨ x ∉ seg g 0 l') → Fr (fun b => b = qb ∨ b = mb ∨ b = q) w w3 →
      (∀ w5, PutI w qb mb q dup (seg f 0 l) xs (i + 1) w5 → K (.tuple #[]) w5) → F46 K (some ⟨qb, 0, none⟩) (enc x) w3 := by
    intro w3 ks3 K H3 h3 M3 hok hx f3 hK
    have hs3 := f3.size
    refine F46_spec H3 h3 Q2.heap (by omega) fun p' c'' g' w4 H4 o4 hh4 pm4 hp4 f4 => hK w4 ?_
    obtain ⟨q4, rest, rfl, _⟩ := o4.get (by omega)
    have hmb : ¬ (mb = qb ∨ bl (some (⟨q', 0, none⟩ : Addr)) mb) := fun h => by
      rcases h with h | ⟨a, ha, hb⟩
      · exact Q2.ne2 h
      · cases ha; exact Q2.ne3 hb.symm
    refine ⟨q4, l' + 1, c'', g', ks3, ⟨H4, o4, hh4, M3.fr f4 hmb, hok.perm pm4.symm⟩, ?_, ?_, f3.trans f4 fun b h => ?_⟩
    · rw [take_snoc hget, addAll_snoc]
      refine pm4.trans (List.Perm.trans ?_ (addD_perm p2 x))
      unfold addD; rw [if_pos hx]
    · rcases hp4 q4 ⟨_, rfl, rfl⟩ with ⟨a, ha, hb⟩ | h
      · cases ha
        have : q' = q4 := hb
        rw [← this]; exact hq2
      · exact .inr (by omega)
    · rcases h with h | ⟨a, ha, hb⟩
      · exact .inl (.inl h)
      · cases ha
        exact foot b (.inl hb.symm)
  cases dup with
  | true =>
    simp only [BIf_true, NN_mk]
    have hks : ks' = [] := by have := Q2.ok; unfold MOk at this; rwa [if_pos rfl] at this
    refine F46_call (push w2 ks' _ Q2.head Q2.own Q2.map (by unfold MOk; rw [if_pos rfl]; exact hks) (.inl rfl) f2 fun w5 h5 => back0 ?_)
    exact ⟨⟨(by trivial), (by trivial), (by trivial), (by trivial), i + 1, rfl, by omega, h5⟩, by omega⟩
  | false =>
    simp only [BIf_false, NN_mk]
    have hok := Q2.ok
    unfold MOk at hok
    rw [if_neg (by decide)] at hok
    refine load_map (i := 1) Q2.head rfl (lookup_spec Q2.map ?_)
    refine new_intro fun n w3 e3 b3 f3 z3 => ?_
    have Q3 := Q2.fr0 f3
    have f03 := f2.trans f3 fun _ h => h.elim
    by_cases hx : x ∈ ks'
    · rw [decide_eq_true hx]
      simp only [Bool.not_true, BIf_false]
      refine ⟨⟨(by trivial), (by trivial), (by trivial), (by trivial), i + 1, rfl, by omega, q', l', c', g, ks', Q3, ?_, hq2, f03⟩, by omega⟩
      rw [take_snoc hget, addAll_snoc]
      refine p2.trans ?_
      unfold addD
      rw [if_neg (by simpa using (p2.mem_iff.1 (hok.1.mem_iff.1 hx)))]
    · rw [decide_eq_false hx]
      simp only [Bool.not_false, BIf_true, NN_mk]
      refine load_map (i := 1) Q3.head rfl ?_
      refine mapUpdate_intro und68 keyE Q3.map fun w4 m4 f4 z4 => ?_
      rw [putL_new (by rw [getL_elems, if_neg hx]), show elems ks' ++ [(x, Value.agg #[])] = elems (ks' ++ [x]) by simp [elems]] at m4
      have hne4 : ∀ b, b = qb ∨ b = q' → ¬ b = mb := fun b h e => by
        rcases h with h | h
        · exact Q3.ne2 (e.symm.trans h)
        · exact Q3.ne3 (e.symm.trans h)
      have hxC : x ∉ seg g 0 l' := fun h => hx (hok.1.mem_iff.2 h)
      refine F46_call (push w4 (ks' ++ [x]) _ (Q3.head.fr f4 (hne4 _ (.inl rfl))) (Own.fr Q3.own f4 fun b hb => hne4 b (.inr (by obtain ⟨a, ha, hb⟩ := hb; cases ha; exact hb.symm))) m4 ?_ (.inr hxC) (f03.trans f4 fun b e => .inl (.inr (.inl e))) fun w5 h5 => back0 ⟨⟨(by trivial), (by trivial), (by trivial), (by trivial), i + 1, rfl, by omega, h5⟩, by omega⟩)
      unfold MOk
      rw [if_neg (by decide)]
      refine ⟨hok.1.append_right _, ?_⟩
      rw [List.nodup_append]
      exact ⟨hok.2, by simp, fun a ha b hb => by simp only [List.mem_singleton] at hb; subst hb; exact fun e => hxC (e ▸ ha)⟩
end Go.Proofs.YtbbidbjefdaagaaDoor.E
