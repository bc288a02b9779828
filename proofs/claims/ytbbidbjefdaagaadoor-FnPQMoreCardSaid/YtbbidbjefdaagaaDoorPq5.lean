/-
  The small functions around: copies, sorting, comparing, items of keys, steps of items.
-/
import Derived.Test.YtbbidbjefdaagaaDoorPq4
namespace Go.Proofs.YtbbidbjefdaagaaDoor.E
open Go Go.Sort
set_option linter.unusedSimpArgs false
set_option linter.unusedVariables false
set_option maxRecDepth 100000
set_option maxHeartbeats 4000000

theorem ints_one (xs : List Int) : ∀ u ∈ ints xs, u.oneCell' = true := by
  intro u hu
  obtain ⟨x, _, rfl⟩ := List.mem_map.1 hu
  rfl
theorem Own.ofN {w : World} {e : TypeId} {p : Option Addr} {l c : Nat} {vs : List Value} (h : OwnN w e 1 p l c vs) : Own w e p l c vs := by
  refine ⟨by simpa using h.1, h.2.imp id ?_⟩
  rintro ⟨q, rest, h1, h2, h3, h4, h5⟩
  exact ⟨q, rest, h1, h2, by simpa using h3, h5⟩
theorem Own.toN {w : World} {e : TypeId} {p : Option Addr} {l c : Nat} {vs : List Value} (h : Own w e p l c vs) : OwnN w e 1 p l c vs := by
  refine ⟨by simpa using h.1, h.2.imp id ?_⟩
  rintro ⟨q, rest, h1, h2, h3, h4⟩
  refine ⟨q, rest, h1, h2, by simpa using h3, ?_, h4⟩
  have := h.1
  rw [List.length_append] at h3
  omega
theorem reads_ints {w : World} {a : Addr} {xs : List Int} (h : Ints w (some a) xs) : ∀ j u, (ints xs)[j]? = some u → w.cell? (a.add j) = some u := by
  intro j u hj
  rw [ints_get] at hj
  cases hx : xs[j]? with
  | none => rw [hx] at hj; cases hj
  | some x =>
    rw [hx] at hj; cases hj
    obtain ⟨a', ha, hc⟩ := h j x hx
    cases ha; exact hc
/-- Clone. -/
theorem F9_spec {k : Value → W} {w : World} {p : Option Addr} {l c : Nat} {xs : List Int} (hX : Ints w p xs) (hl : l = xs.length) (h0 : 0 < xs.length) (hb : xs.length < 100000)
    (hk : ∀ q c' w', Own w' 3 q l c' (ints xs) → (∀ b, bl q b → w.heap.size ≤ b) → Fr (fun _ => False) w w' → k (.slice q l c') w') : F9 k p l c w := by
  subst hl
  obtain ⟨a, rfl, _⟩ := hX 0 _ (List.getElem?_eq_getElem h0)
  unfold F9
  show RawT _ _ _ _ w
  obtain ⟨ii, hi1, hi2, hi3, hi4⟩ := inf3
  refine build_none und29 hi1 fun w1 f1 b1 z1 => ?_
  have o1 : OwnN w1 3 1 (some ⟨w.heap.size, 0, none⟩) 0 0 [] := OwnN.made b1 rfl (by decide)
  refine append_own (P := Tryd.prog) und29 hi1 hi2 hi3 (by decide) rfl (by omega) o1 (news := ints xs) (by simp) (reads_ints (hX.fr0 f1)) (ints_one xs) (by omega) fun p' c' w' f' o' hp' => ?_
  rw [Nat.zero_add, List.nil_append] at o'
  rw [Nat.zero_add]
  refine hk p' c' w' (Own.ofN o') (fun b hb => ?_) (f1.trans f' fun b hb => .inr ?_)
  · rcases hp' b hb with h | h
    · obtain ⟨x, hx, rfl⟩ := h; cases hx; exact Nat.le_refl _
    · have := f1.size; omega
  · obtain ⟨x, hx, rfl⟩ := hb; cases hx; exact Nat.le_refl _
theorem ren5 : Tryd.so5_ren.f 5 = 14 := rfl
/-- slices.Sort. -/
theorem F14_spec {w : World} {q c : Nat} {xs : List Int} {rest : List Value} {R : Ending → World → Prop} (hB : Blk w q 3 (ints xs ++ rest)) (hb : xs.length < 100000)
    (hk : ∀ w', Blk w' q 3 (ints (srt xs) ++ rest) → Fr (fun b => b = q) w w' → R (.returned (.tuple #[])) w') : Calls Tryd.prog 14 #[.slice (some ⟨q, 0, none⟩) xs.length c] w R := by
  have hH := holds_of (enc := Value.int .i64) (xs := xs) hB
  have hS := AnyM.slices_Sort_int Tryd.so5 q 0 c xs w hH hB.lt (by omega)
  rw [ren5] at hS
  refine hS.mono fun e w' ⟨he, n, os, hw⟩ => ?_
  subst he
  have := blk_sorted (os := os) (n := n) (enc := Value.int .i64) (ys := srt xs) hB (srt_len xs)
  unfold srt at this
  rw [← hw] at this
  exact hk _ this.1 this.2
/-- dxSorted. -/
theorem F8_spec {k : Value → W} {w : World} {p : Option Addr} {l c : Nat} {xs : List Int} (hX : Ints w p xs) (hl : l = xs.length) (h0 : 0 < xs.length) (hb : xs.length < 100000)
    (hk : ∀ q c' w', Own w' 3 q l c' (ints (srt xs)) → Fr (fun _ => False) w w' → k (.slice q l c') w') : F8 k p l c w := by
  subst hl
  unfold F8
  refine F9_call (F9_spec hX rfl h0 hb fun q c' w1 o1 hq f1 => back_slice ?_)
  obtain ⟨q, rest, rfl, hB, hc, hm⟩ := o1.get h0
  refine F14_spec hB hb fun w2 hB2 f2 => back0 ?_
  refine hk _ _ w2 ⟨by simp [srt_len], .inr ⟨q, rest, rfl, hB2, ?_, hm⟩⟩ (f1.trans f2 fun b e => .inr (hq b ⟨_, rfl, e.symm⟩))
  rw [← hc]; simp [srt_len]
/-- Equal. -/
theorem F13_spec {k : Value → W} {w : World} {p q : Option Addr} {l c m d : Nat} {xs ys : List Int} (hX : Ints w p xs) (hY : Ints w q ys) (hl : l = xs.length) (hm : m = ys.length) (hb : xs.length < 100000)
    (hk : ∀ w', Fr (fun _ => False) w w' → k (.bool (decide (xs = ys))) w') : F13 k p l c q m d w := by
  subst hl; subst hm
  unfold F13
  by_cases hne : xs.length = ys.length
  rotate_left
  · rw [show (((xs.length : Nat) : Int) != ((ys.length : Nat) : Int)) = true by simp; omega]
    simp only [BIf_true]
    rw [show false = decide (xs = ys) from (decide_eq_false fun e => hne (by rw [e])).symm]
    exact hk w (Fr.refl _ _)
  rw [show (((xs.length : Nat) : Int) != ((ys.length : Nat) : Int)) = false by simp; omega]
  simp only [BIf_false]
  refine F13_L1_rule (fun sp sl sc tp tl tc x5 x6 w' => Fr (fun _ => False) w w' ∧ sp = p ∧ sl = xs.length ∧ tp = q ∧ tl = ys.length ∧ x5 = (xs.length : Nat) ∧ ∃ i : Nat, x6 = i ∧ i ≤ xs.length ∧ xs.take i = ys.take i) (fun _ _ _ _ _ _ x5 x6 _ => (x5 - x6).toNat) ?_ ⟨Fr.refl _ _, rfl, rfl, rfl, rfl, rfl, 0, rfl, Nat.zero_le _, by simp⟩
  rintro sp sl sc tp tl tc x5 x6 w' ⟨f, hsp, hsl, htp, htl, rfl, i, rfl, hi, he⟩
  obtain rfl := hsp.symm; obtain rfl := hsl.symm; obtain rfl := htp.symm; obtain rfl := htl.symm
  unfold F13_L1
  by_cases hil : i < xs.length
  rotate_left
  · have : i = xs.length := by omega
    subst this
    rw [decide_eq_false (by omega)]
    rw [List.take_length, hne, List.take_length] at he
    simp only [BIf_false]
    rw [show true = decide (xs = ys) from (decide_eq_true he).symm]
    exact hk w' f
  rw [decide_eq_true (by omega)]
  have hgx : xs[i]? = some (xs[i]'(by omega)) := List.getElem?_eq_getElem _
  have hgy : ys[i]? = some (ys[i]'(by omega)) := List.getElem?_eq_getElem _
  generalize xs[i]'(by omega) = x at hgx
  generalize ys[i]'(by omega) = y at hgy
  simp only [BIf_true]
  refine drw_intro fun w2 f2 z2 => ?_
  have f02 := f.trans f2 fun _ h => h.elim
  obtain ⟨a, rfl, hc⟩ := hX.fr0 f02 i x hgx
  obtain ⟨b, rfl, hd⟩ := hY.fr0 f02 i y hgy
  simp only [NN_mk, Int.toNat_natCast]
  refine ⟨by omega, LoadT_int.2 ⟨_, hc, ⟨by omega, LoadT_int.2 ⟨_, hd, ?_⟩⟩⟩⟩
  by_cases hxy : x = y
  · subst hxy
    rw [show (x != x) = false by simp]
    simp only [BIf_false]
    have e : addI .i64 (i : Nat) 1 = ((i + 1 : Nat) : Int) := by rw [addI_i64 (by omega) (by omega)]; simp
    rw [e]
    refine ⟨⟨f02, (by trivial), (by trivial), (by trivial), (by trivial), (by trivial), i + 1, rfl, by omega, ?_⟩, by omega⟩
    rw [take_snoc hgx, take_snoc hgy, he]
  · rw [show (x != y) = true by simpa using hxy]
    simp only [BIf_true]
    rw [show false = decide (xs = ys) from (decide_eq_false fun e => hxy (by rw [e, hgy] at hgx; exact (Option.some.inj hgx).symm)).symm]
    exact hk w2 f02

theorem F5_spec {k : Value → W} {w : World} {p : Option Addr} {l c : Nat} (h : k (.bool false) w) (h' : 0 < l → l ≤ 30 → k (.bool true) w) : F5 k p l c w := by
  unfold F5
  refine BIf_intro (fun g => ?_) fun _ => h
  have g := of_decide_eq_true g
  refine bind_intro ?_
  by_cases hl : l ≤ 30
  · rw [decide_eq_true (by omega)]; exact h' (by omega) hl
  · rw [decide_eq_false (by omega)]; exact h
def I16 (xs : List Int) : Prop := ∀ x ∈ xs, -32768 ≤ x ∧ x < 32768
def tag : Nat → List Int → List It2
  | _, [] => []
  | i, x :: xs => (x, (i : Nat)) :: tag (i + 1) xs
theorem tag_append : ∀ (xs ys : List Int) (s : Nat), tag s (xs ++ ys) = tag s xs ++ tag (s + xs.length) ys
  | [], ys, s => by simp [tag]
  | x :: xs, ys, s => by simp only [List.cons_append, tag, tag_append xs ys (s + 1), List.length_cons]; rw [show s + 1 + xs.length = s + (xs.length + 1) by omega]
theorem tag_key : ∀ (xs : List Int) (s : Nat), (tag s xs).map key = xs
  | [], _ => rfl
  | x :: xs, s => by simp only [tag, List.map_cons, tag_key xs (s + 1)]; rfl
theorem tag_length (xs : List Int) (s : Nat) : (tag s xs).length = xs.length := by have := congrArg List.length (tag_key xs s); simpa using this
theorem tag_snd : ∀ (xs : List Int) (s : Nat), ∀ q ∈ tag s xs, (s : Int) ≤ q.2
  | [], _, q, h => by cases h
  | x :: xs, s, q, h => by
    simp only [tag, List.mem_cons] at h
    rcases h with rfl | h
    · exact Int.le_refl _
    · have := tag_snd xs (s + 1) q h; omega
theorem tag_nodup : ∀ (xs : List Int) (s : Nat), (tag s xs).Nodup
  | [], _ => List.nodup_nil
  | x :: xs, s => by
    simp only [tag, List.nodup_cons]
    refine ⟨fun h => ?_, tag_nodup xs (s + 1)⟩
    have := tag_snd xs (s + 1) _ h
    simp only at this; omega
/-- dxItems, not shifted. -/
theorem F6_spec {k : Value → W} {w : World} {p : Option Addr} {l c : Nat} {xs : List Int} (hX : Shorts w p xs) (hl : l = xs.length) (hb : xs.length < 100000) (hx : I16 xs)
    (hk : ∀ q c' w', OwnN w' 28 2 q xs.length c' (flat (tag 0 xs)) → (∀ b, bl q b → w.heap.size ≤ b) → Fr (fun _ => False) w w' → k (.slice q xs.length c') w') : F6 k p l c 0 w := by
  subst hl
  unfold F6
  obtain ⟨i28, g1, g2, g3, g4⟩ := inf28
  refine F6_L1_rule (fun by' op ol oc sp sl sc x6 x7 w' => by' = 0 ∧ sp = p ∧ sl = xs.length ∧ x6 = (xs.length : Nat) ∧ ∃ i : Nat, x7 = i ∧ i ≤ xs.length ∧ ol = i ∧ OwnN w' 28 2 op i oc (flat (tag 0 (xs.take i))) ∧ (∀ b, bl op b → w.heap.size ≤ b) ∧ Fr (fun _ => False) w w')
    (fun _ _ _ _ _ _ _ x6 x7 _ => (x6 - x7).toNat) ?_ ⟨rfl, rfl, rfl, rfl, 0, rfl, Nat.zero_le _, rfl, OwnN.nil _ _ _, fun b hb => (by obtain ⟨a, h, _⟩ := hb; cases h), Fr.refl _ _⟩
  rintro by' op ol oc sp sl sc x6 x7 w3 ⟨rfl, hsp, hsl, rfl, i, rfl, hi, hol, o3, hb3, f3⟩
  obtain rfl := hsp.symm; obtain rfl := hsl.symm; obtain rfl := hol.symm
  unfold F6_L1
  by_cases hil : i < xs.length
  rotate_left
  · have : i = xs.length := by omega
    subst this
    rw [decide_eq_false (by omega)]
    rw [List.take_length] at o3
    simp only [BIf_false]
    exact hk _ _ _ o3 hb3 f3
  rw [decide_eq_true (by omega)]
  have hget : xs[i]? = some (xs[i]'(by omega)) := List.getElem?_eq_getElem _
  have hbx := hx _ (List.getElem_mem (show i < xs.length by omega))
  generalize xs[i]'(by omega) = x at hget hbx
  obtain ⟨a, rfl, hc⟩ := hX.fr0 f3 i x hget
  simp only [BIf_true, NN_mk, Int.toNat_natCast]
  refine ⟨by omega, LoadT_int.2 ⟨_, hc, ?_⟩⟩
  rw [wrap_i64 (by omega) (by omega), addI_i64 (a := x) (by omega) (by omega), Int.add_zero, add_one (by omega)]
  refine build_intro und25 g1 g2 (by omega) (by omega) (fill28 x (i : Nat) i28 g3) fun w5 f5 b5 z5 => ?_
  have o5 := o3.fr f5 fun _ _ h => h
  refine append_own (P := Tryd.prog) und25 g1 g2 g3 (by decide) rfl g4 o5 (news := flat [(x, ((i : Nat) : Int))]) (m := 1) (flat_length _) ?_ (flat_one _) (by omega) fun p8 c8 w8 f8 o8 hp8 => ?_
  · intro j u hj
    rw [add_mk, Nat.zero_add, b5.cell]; exact hj
  have f35 := f3.trans f5 fun _ h => h.elim
  refine ⟨⟨(by trivial), (by trivial), (by trivial), (by trivial), i + 1, rfl, by omega, (by trivial), ?_, ?_, f35.trans f8 fun b hb => .inr (hb3 b hb)⟩, by omega⟩
  · rw [take_snoc hget, tag_append, flat_append, List.length_take, Nat.min_eq_left (by omega), Nat.zero_add]; exact o8
  · intro b hb
    rcases hp8 b hb with h | h
    · exact hb3 b h
    · exact Nat.le_trans f35.size h

/-! ## Steps -/
abbrev Stp := Int × Nat × List It2
structure Ent where
  op : Int
  n : Nat
  ip : Option Addr
  ic : Nat
  xs : List It2
def Ent.st (e : Ent) : Stp := (e.op, e.n, e.xs)
def ec (e : Ent) : List Value := [.int .i64 e.op, .int .i64 (e.n : Nat), .slice e.ip e.xs.length e.ic]
def sflat : List Ent → List Value
  | [] => []
  | e :: l => ec e ++ sflat l
theorem sflat_append : ∀ l m : List Ent, sflat (l ++ m) = sflat l ++ sflat m
  | [], _ => rfl
  | r :: l, m => by simp [sflat, sflat_append l m, ec]
theorem sflat_length : ∀ l : List Ent, (sflat l).length = l.length * 3
  | [] => rfl
  | r :: l => by simp [sflat, ec, sflat_length l]; omega
theorem sflat_one : ∀ (l : List Ent), ∀ u ∈ sflat l, u.oneCell' = true
  | [], u, h => by cases h
  | r :: l, u, h => by
    simp only [sflat, ec, List.mem_append, List.mem_cons, List.not_mem_nil, or_false] at h
    rcases h with (rfl | rfl | rfl) | h
    · rfl
    · rfl
    · rfl
    · exact sflat_one l u h
theorem sflat_get : ∀ (l : List Ent) (i : Nat) (e : Ent), l[i]? = some e → (sflat l)[i * 3]? = some (.int .i64 e.op) ∧ (sflat l)[i * 3 + 1]? = some (.int .i64 (e.n : Nat)) ∧ (sflat l)[i * 3 + 2]? = some (.slice e.ip e.xs.length e.ic)
  | [], _, _, h => by cases h
  | x :: l, 0, r, h => by simp at h; subst h; exact ⟨rfl, rfl, rfl⟩
  | x :: l, i + 1, r, h => by
    have := sflat_get l i r (by simpa using h)
    rw [show (i + 1) * 3 = i * 3 + 1 + 1 + 1 by omega]
    simpa [sflat, ec] using this
def EOk (w : World) (es : List Ent) : Prop := ∀ e ∈ es, Edges w e.ip e.xs
theorem EOk.fr0 {w w' : World} {es : List Ent} (h : EOk w es) (f : Fr (fun _ => False) w w') : EOk w' es := fun e he => (h e he).fr0 f
theorem EOk.append {w : World} {es fs : List Ent} (h : EOk w es) (h' : EOk w fs) : EOk w (es ++ fs) := fun e he => (List.mem_append.1 he).elim (h e) (h' e)
theorem EOk.take {w : World} {n : Nat} : EOk w [⟨2, n, none, 0, []⟩] := fun e he => by
  simp only [List.mem_singleton] at he
  subst he
  intro i q h; cases h
/-- The steps at p. -/
structure StepsAt (w : World) (p : Option Addr) (l c : Nat) (es : List Ent) : Prop where
  own : OwnN w 40 3 p l c (sflat es)
  ok : EOk w es
theorem StepsAt.len {w : World} {p : Option Addr} {l c : Nat} {es : List Ent} (h : StepsAt w p l c es) : l = es.length := by
  have := h.own.1
  rw [sflat_length] at this; omega
theorem StepsAt.fr {T : Nat → Prop} {w w' : World} {p : Option Addr} {l c : Nat} {es : List Ent} (h : StepsAt w p l c es) (f : Fr (fun _ => False) w w') : StepsAt w' p l c es := ⟨h.own.fr f fun _ _ h => h, h.ok.fr0 f⟩
theorem fill40 (e : Ent) : ∀ i : TypeInfo, i.size = 3 → Instr.fill (fun j => some (j * i.size, i.size)) ((Array.range (1 * i.size)).map (z40.cells[· % z40.cells.size]!)) [(0, .agg #[.int .i64 e.op, .int .i64 (e.n : Nat), .slice e.ip e.xs.length e.ic])] = some (sflat [e]).toArray := by
  intro i h
  rw [h]
  kernel_rfl
theorem reads_own {w : World} {e : TypeId} {sz q l c : Nat} {vs : List Value} (h : OwnN w e sz (some ⟨q, 0, none⟩) l c vs) : ∀ j u, vs[j]? = some u → w.cell? ((⟨q, 0, none⟩ : Addr).add j) = some u := fun j u hj => by
  have := h.1
  rw [add_mk, Nat.zero_add, h.cell (by have := (List.getElem?_eq_some_iff.1 hj).1; omega)]; exact hj
/-- A copy of steps. -/
theorem F15_spec {k : Value → W} {w : World} {p : Option Addr} {l c : Nat} {es : List Ent} (hS : StepsAt w p l c es) (h0 : 0 < es.length) (hb : es.length < 100000)
    (hk : ∀ q c' w', StepsAt w' q l c' es → (∀ b, bl q b → w.heap.size ≤ b) → Fr (fun _ => False) w w' → k (.slice q l c') w') : F15 k p l c w := by
  have hl := hS.len
  subst hl
  obtain ⟨q, rest, rfl, _⟩ := hS.own.get h0
  unfold F15
  show RawT _ _ _ _ w
  obtain ⟨ii, hi1, hi2, hi3, hi4⟩ := inf40
  refine build_none und33 hi1 fun w1 f1 b1 z1 => ?_
  have o1 : OwnN w1 40 3 (some ⟨w.heap.size, 0, none⟩) 0 0 [] := OwnN.made b1 rfl (by decide)
  refine append_own (P := Tryd.prog) und33 hi1 hi2 hi3 (by decide) rfl hi4 o1 (news := sflat es) (sflat_length _) (reads_own (hS.own.fr f1 fun _ _ h => h)) (sflat_one es) (by omega) fun p' c' w' f' o' hp' => ?_
  rw [Nat.zero_add, List.nil_append] at o'
  rw [Nat.zero_add]
  have f02 : Fr (fun _ => False) w w' := f1.trans f' fun b hb => .inr (by obtain ⟨x, hx, rfl⟩ := hb; cases hx; exact Nat.le_refl _)
  refine hk p' c' w' ⟨o', hS.ok.fr0 f02⟩ (fun b hb => ?_) f02
  rcases hp' b hb with h | h
  · obtain ⟨x, hx, rfl⟩ := h; cases hx; exact Nat.le_refl _
  · have := f1.size; omega
/-- dxTakes. -/
theorem F10_spec {k : Value → W} {w : World} {p : Option Addr} {l c N : Nat} {es : List Ent} (hS : StepsAt w p l c es) (h0 : 0 < es.length) (hb : es.length < 90000)
    (hk : ∀ q c' w', StepsAt w' q (l + 1) c' (es ++ [⟨2, N, none, 0, []⟩]) → (∀ b, bl q b → w.heap.size ≤ b) → Fr (fun _ => False) w w' → k (.slice q (l + 1) c') w') : F10 k p l c (N : Nat) w := by
  have hl := hS.len
  subst hl
  unfold F10
  refine F15_call (F15_spec hS h0 (by omega) fun q c1 w1 s1 hq f1 => back_slice ?_)
  obtain ⟨ii, hi1, hi2, hi3, hi4⟩ := inf40
  refine build_intro und33 hi1 hi2 (by omega) (by omega) (fill40 ⟨2, N, none, 0, []⟩ ii hi3) fun w2 f2 b2 z2 => ?_
  have s2 := StepsAt.fr (T := fun _ => False) s1 f2
  refine append_own (P := Tryd.prog) und33 hi1 hi2 hi3 (by decide) rfl hi4 s2.own (news := sflat [⟨2, N, none, 0, []⟩]) (m := 1) (sflat_length _) ?_ (sflat_one _) (by omega) fun p3 c3 w3 f3 o3 hp3 => ?_
  · intro j u hj
    rw [add_mk, Nat.zero_add, b2.cell]; exact hj
  rw [← sflat_append] at o3
  have f02 := f1.trans f2 fun _ h => h.elim
  have f03 : Fr (fun _ => False) w w3 := f02.trans f3 fun b hb => .inr (hq b hb)
  refine hk p3 c3 w3 ⟨o3, (hS.ok.fr0 f03).append EOk.take⟩ (fun b hb => ?_) f03
  rcases hp3 b hb with h | h
  · exact hq b h
  · have := f02.size; omega

theorem run_min {w : World} {f : Int → W} {a b : Nat} (hk : f ((min a b : Nat) : Int) w) : NextT Tryd.prog (builtin .min #[3, 3] 3 [false, false].toArray [.int .i64 (a : Nat), .int .i64 (b : Nat)].toArray) (.s (.one (.int .i64))) f w := by
  refine NextT_int (n := ((min a b : Nat) : Int)) (w' := w) ?_ hk
  show (Sem.run Tryd.prog (do let a ← Builtin.min_ _ _ _; pure (Next.value a)) w) = _
  have := run_min_int2 (P := Tryd.prog) (w := w) #[3, 3] 3 .i64 .i64 (a : Nat) (b : Nat)
  rw [Sem.run_bind, show [Value.int .i64 (a : Nat), .int .i64 (b : Nat)].toArray = #[.int .i64 (a : Nat), .int .i64 (b : Nat)] from rfl, this]
  simp only [Result.andThen_ok, Sem.run_pure]
  congr 3
  split <;> omega
/-- The steps that put elements. -/
def Puts (es : List Ent) (xs : List It2) (most : Nat) : Prop := (∀ e ∈ es, e.op = 1 ∧ e.xs.length ≤ most) ∧ (es.map Ent.xs).flatten = xs ∧ es.length ≤ xs.length
theorem Edges.take {w : World} {p : Option Addr} {xs : List It2} (h : Edges w p xs) (n : Nat) : Edges w p (xs.take n) := fun i q hq => by
  rw [List.getElem?_take] at hq
  split at hq
  · exact h i q hq
  · cases hq
theorem Edges.drop {w : World} {a : Addr} {xs : List It2} (h : Edges w (some a) xs) (n c : Nat) (hc : c ≠ n ∨ xs.length ≤ n) : Edges w (sliceA (some a) n c 2) (xs.drop n) := fun i q hq => by
  rw [List.getElem?_drop] at hq
  have hlt := (List.getElem?_eq_some_iff.1 hq).1
  obtain ⟨a', ha, c1, c2⟩ := h (n + i) q hq
  cases ha
  unfold sliceA
  rw [if_neg (by omega)]
  refine ⟨_, rfl, ?_, ?_⟩
  · rw [add_add a, ← Nat.add_mul]; exact c1
  · rw [add_add a, ← Nat.add_mul]; exact c2
theorem F11_spec {k : Value → W} {w : World} {p : Option Addr} {l c most : Nat} {xs : List It2} (hE : Edges w p xs) (hl : l = xs.length) (hc : l ≤ c) (hb : xs.length < 10000) (h0 : 0 < most) (hm : most < 10000)
    (hk : ∀ es q c' w', Puts es xs most → (∀ u, Edges u p xs → EOk u es) → StepsAt w' q es.length c' es → (∀ b, bl q b → w.heap.size ≤ b) → Fr (fun _ => False) w w' → k (.slice q es.length c') w') : F11 k p l c (most : Nat) w := by
  subst hl
  unfold F11
  obtain ⟨ii, hi1, hi2, hi3, hi4⟩ := inf40
  refine F11_L1_rule (fun lp ll lc m op ol oc w' => m = (most : Nat) ∧ ∃ (done rest : List It2) (es : List Ent), xs = done ++ rest ∧ ll = rest.length ∧ ll ≤ lc ∧ (∀ u, Edges u p xs → Edges u lp rest) ∧ Puts es done most ∧ ol = es.length ∧ (∀ u, Edges u p xs → EOk u es) ∧ OwnN w' 40 3 op ol oc (sflat es) ∧ (∀ b, bl op b → w.heap.size ≤ b) ∧ Fr (fun _ => False) w w')
    (fun _ ll _ _ _ _ _ _ => ll) ?_ ⟨rfl, [], xs, [], rfl, rfl, hc, fun _ h => h, ⟨fun e h => (by cases h), rfl, Nat.le_refl _⟩, rfl, fun u _ e h => (by cases h), OwnN.nil _ _ _, fun b hb => (by obtain ⟨a, h, _⟩ := hb; cases h), Fr.refl _ _⟩
  rintro lp ll lc m op ol oc w2 ⟨rfl, done, rest, es, hxs, e1, hlc, E2, P2, e2, k2, o2, hp2, f2⟩
  subst e1; subst e2
  have hxl : xs.length = done.length + rest.length := by rw [hxs, List.length_append]
  unfold F11_L1
  by_cases hz : 0 < rest.length
  rotate_left
  · have : rest = [] := List.length_eq_zero_iff.1 (by omega)
    subst this
    rw [decide_eq_false (by simp)]
    simp only [BIf_false]
    rw [List.append_nil] at hxs
    subst hxs
    exact hk es op oc w2 P2 k2 ⟨o2, (k2 w hE).fr0 f2⟩ hp2 f2
  rw [decide_eq_true (by omega)]
  simp only [BIf_true]
  refine run_min ?_
  have hmn : 0 < min most rest.length ∧ min most rest.length ≤ rest.length ∧ min most rest.length ≤ most := by omega
  generalize min most rest.length = n at hmn
  obtain ⟨hn0, hn1, hn2⟩ := hmn
  obtain ⟨a, rfl, _⟩ := E2 w hE 0 _ (List.getElem?_eq_getElem hz)
  have esl : sliceA (some a) 0 lc 2 = some a := by
    unfold sliceA
    rw [if_neg (by omega)]
    simp [Addr.add]
  have etl : (rest.take n).length = n := by rw [List.length_take]; omega
  simp only [Int.toNat_natCast, Nat.sub_zero, esl]
  refine ⟨by omega, ?_⟩
  have hfill := fill40 ⟨1, 0, some a, lc, rest.take n⟩ ii hi3
  simp only [etl] at hfill
  refine build_intro und33 hi1 hi2 (by omega) (by omega) hfill fun w3 f3 b3 z3 => ?_
  have o3 := o2.fr f3 fun _ _ h => h
  have hel := P2.2.2
  refine append_own (P := Tryd.prog) und33 hi1 hi2 hi3 (by decide) rfl hi4 o3 (news := sflat [⟨1, 0, some a, lc, rest.take n⟩]) (m := 1) (sflat_length _) ?_ (sflat_one _) (by omega) fun p4 c4 w4 f4 o4 hp4 => ?_
  · intro j u hj
    rw [add_mk, Nat.zero_add, b3.cell]; exact hj
  rw [← sflat_append] at o4
  have f03 := f2.trans f3 fun _ h => h.elim
  have f24 : Fr (fun b => bl op b) w2 w4 := (f3.mono fun _ h => h.elim).trans f4 fun b hb => .inl hb
  have f04 : Fr (fun _ => False) w w4 := f03.trans f4 fun b hb => .inr (hp2 b hb)
  refine ⟨by omega, ⟨(by trivial), done ++ rest.take n, rest.drop n, es ++ [⟨1, 0, some a, lc, rest.take n⟩], ?_, ?_, by omega, fun u hu => (E2 u hu).drop n lc (by omega), ⟨?_, ?_, ?_⟩, by simp, ?_, o4, ?_, f04⟩, by omega⟩
  · rw [List.append_assoc, List.take_append_drop]; exact hxs
  · rw [List.length_drop]
  · intro e he
    rcases List.mem_append.1 he with he | he
    · exact P2.1 e he
    · simp only [List.mem_singleton] at he
      subst he
      exact ⟨rfl, by simp only; omega⟩
  · rw [List.map_append, List.flatten_append, P2.2.1]; simp
  · simp only [List.length_append, List.length_singleton]; omega
  · intro u hu
    refine (k2 u hu).append fun e he => ?_
    simp only [List.mem_singleton] at he
    subst he
    exact (E2 u hu).take n
  · intro b hb
    rcases hp4 b hb with h | h
    · exact hp2 b h
    · have := f03.size; omega
end Go.Proofs.YtbbidbjefdaagaaDoor.E
