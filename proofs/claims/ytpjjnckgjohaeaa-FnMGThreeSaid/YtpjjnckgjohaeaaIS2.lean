/-
  Numbers of 64 bits out of numbers of 16, lists turned about, sorted lists asked and compared, places searched.
-/
import Derived.Test.YtpjjnckgjohaeaaIS1
namespace Go.Proofs.Ytpjjnckgjohaeaa.E
open Go Go.Sort
set_option linter.unusedSimpArgs false
set_option linter.unusedVariables false
set_option maxRecDepth 100000
set_option maxHeartbeats 2000000

theorem F7_spec {k : Value → W} {w : World} {p : Option Addr} {l c : Nat} (h1 : k (.bool false) w) (h2 : 0 < l → l ≤ 30 → k (.bool true) w) : F7 k p l c w := by
  unfold F7
  refine BIf_intro (fun hc => ?_) fun _ => h1
  have hc := of_decide_eq_true hc
  refine bind_intro ?_
  by_cases h : l ≤ 30
  · rw [decide_eq_true (by omega)]; exact h2 (by omega) h
  · rw [decide_eq_false (by omega)]; exact h1

/-- Numbers of 16 bits. -/
def I16 (xs : List Int) : Prop := ∀ x ∈ xs, -32768 ≤ x ∧ x < 32768
theorem F9_spec {k : Value → W} {w : World} {p : Option Addr} {l c : Nat} {xs : List Int} {d : Int} (hX : Shorts w p xs) (hl : l = xs.length) (hb : xs.length < 100000) (hx : I16 xs) (hd : -32768 ≤ d ∧ d < 32768)
    (hk : ∀ q c' w', Own w' 2 q l c' (ints (xs.map (· + d))) → Fr (fun _ => False) w w' → k (.slice q l c') w') : F9 k p l c d w := by
  subst hl
  unfold F9
  refine F9_L1_rule (fun y op ol oc sp sl sc x6 x7 w' => y = d ∧ sp = p ∧ sl = xs.length ∧ x6 = (xs.length : Nat) ∧ ∃ i : Nat, x7 = i ∧ i ≤ xs.length ∧ ol = i ∧ Own w' 2 op i oc (ints ((xs.take i).map (· + d))) ∧ (∀ b, bl op b → w.heap.size ≤ b) ∧ Fr (fun _ => False) w w')
    (fun _ _ _ _ _ _ _ x6 x7 _ => (x6 - x7).toNat) ?_ ⟨rfl, rfl, rfl, rfl, 0, rfl, Nat.zero_le _, rfl, Own.nil _ _, fun b hb => (by obtain ⟨a, h, _⟩ := hb; cases h), Fr.refl _ _⟩
  rintro y op ol oc sp sl sc x6 x7 w2 ⟨hy, hsp, hsl, rfl, i, rfl, hi, hol, o2, hb2, f2⟩
  obtain rfl := hy.symm; obtain rfl := hsp.symm; obtain rfl := hsl.symm; obtain rfl := hol.symm
  unfold F9_L1
  by_cases hil : i < xs.length
  rotate_left
  · have : i = xs.length := by omega
    subst this
    rw [decide_eq_false (by omega)]
    rw [List.take_length] at o2
    simp only [BIf_false]
    exact hk _ _ _ o2 f2
  rw [decide_eq_true (by omega)]
  have hget : xs[i]? = some (xs[i]'(by omega)) := List.getElem?_eq_getElem _
  have hbx := hx _ (List.getElem_mem (show i < xs.length by omega))
  generalize xs[i]'(by omega) = x at hget hbx
  obtain ⟨a, rfl, hc⟩ := hX.fr0 f2 i x hget
  simp only [BIf_true, NN_mk, Int.toNat_natCast]
  refine ⟨by omega, LoadT_int.2 ⟨_, hc, ?_⟩⟩
  rw [wrap_i64 (by omega) (by omega), addI_i64 (by omega) (by omega), add_one (by omega)]
  obtain ⟨ii, hi1, hi2, hi3, hi4⟩ := inf2
  refine append1 (P := Try.prog) und25 hi1 hi2 hi3 rfl (by omega) o2 rfl rfl (by omega) fun p7 c7 w7 f7 o7 hp7 hs7 => ?_
  refine ⟨⟨(by trivial), (by trivial), (by trivial), (by trivial), i + 1, rfl, by omega, (by trivial), ?_, ?_, f2.trans f7 fun b hb => .inr (hb2 b hb)⟩, by omega⟩
  · rw [take_snoc hget, List.map_append, ints_append]; exact o7
  · intro b hb
    rcases hp7 b hb with h | h
    · exact hb2 b h
    · exact Nat.le_trans f2.size h

/-! ## Turned about -/
def shorts (l : List Int) : List Value := l.map (.int .i16)
theorem shorts_get (l : List Int) (i : Nat) : (shorts l)[i]? = l[i]?.map (.int .i16) := List.getElem?_map
theorem reads_shorts {w : World} {a : Addr} {xs : List Int} (h : Shorts w (some a) xs) : ∀ j u, (shorts xs)[j]? = some u → w.cell? (a.add j) = some u := by
  intro j u hj
  rw [shorts_get] at hj
  cases hx : xs[j]? with
  | none => rw [hx] at hj; cases hj
  | some x =>
    rw [hx] at hj; cases hj
    obtain ⟨a', ha, hc⟩ := h j x hx
    cases ha; exact hc
theorem Own.shorts {w : World} {e : TypeId} {p : Option Addr} {l c : Nat} {xs : List Int} (h : Own w e p l c (shorts xs)) : Shorts w p xs := fun i x hx => by
  have hl : xs.length = l := by have := h.1; rwa [E.shorts, List.length_map] at this
  have hi : i < xs.length := (List.getElem?_eq_some_iff.1 hx).1
  obtain ⟨q, rest, rfl, _, _, _⟩ := h.get (by omega)
  exact ⟨_, rfl, by rw [add_mk, Nat.zero_add, h.cell (by omega), shorts_get, hx]; rfl⟩
theorem F26_spec {k : Value → W} {w : World} {p : Option Addr} {l c : Nat} {xs : List Int} (hX : Shorts w p xs) (hl : l = xs.length) (h0 : 0 < xs.length) (hb : xs.length < 100000)
    (hk : ∀ q c' w', Own w' 23 q l c' (shorts xs) → (∀ b, bl q b → w.heap.size ≤ b) → Fr (fun _ => False) w w' → k (.slice q l c') w') : F26 k p l c w := by
  subst hl
  obtain ⟨a, rfl, _⟩ := hX 0 _ (List.getElem?_eq_getElem h0)
  unfold F26
  show RawT _ _ _ _ w
  obtain ⟨ii, hi1, hi2, hi3, hi4⟩ := inf23
  refine build_none und22 hi1 fun w1 f1 b1 z1 => ?_
  have o1 : OwnN w1 23 1 (some ⟨w.heap.size, 0, none⟩) 0 0 [] := OwnN.made b1 rfl (by decide)
  refine append_own (P := Try.prog) und22 hi1 hi2 hi3 (by decide) rfl (by omega) o1 (news := shorts xs) (by simp [E.shorts]) (reads_shorts (hX.fr0 f1)) (by
    intro u hu
    obtain ⟨x, _, rfl⟩ := List.mem_map.1 hu
    rfl) (by omega) fun p' c' w' f' o' hp' => ?_
  rw [Nat.zero_add, List.nil_append] at o'
  rw [Nat.zero_add]
  refine hk p' c' w' (Own.ofN o') (fun b hb => ?_) (f1.trans f' fun b hb => .inr ?_)
  · rcases hp' b hb with h | h
    · obtain ⟨x, hx, rfl⟩ := h; cases hx; exact Nat.le_refl _
    · have := f1.size; omega
  · obtain ⟨x, hx, rfl⟩ := hb; cases hx; exact Nat.le_refl _
/-- The first i and the last i turned about. -/
def half (xs : List Int) (i : Nat) : List Int := (List.range xs.length).map fun j => if j < i ∨ xs.length - 1 - j < i then xs.getD (xs.length - 1 - j) 0 else xs.getD j 0
theorem half_length (xs : List Int) (i : Nat) : (half xs i).length = xs.length := by simp [half]
theorem half_get (xs : List Int) (i j : Nat) (h : j < xs.length) : (half xs i)[j]? = some (if j < i ∨ xs.length - 1 - j < i then xs.getD (xs.length - 1 - j) 0 else xs.getD j 0) := by
  simp [half, h]
theorem half_zero (xs : List Int) : half xs 0 = xs := by
  apply List.ext_getElem?
  intro j
  by_cases h : j < xs.length
  · rw [half_get _ _ _ h, if_neg (by omega), List.getD_eq_getElem?_getD, List.getElem?_eq_getElem h]; rfl
  · rw [List.getElem?_eq_none (by rw [half_length]; omega), List.getElem?_eq_none (by omega)]
theorem half_all (xs : List Int) {i : Nat} (hi : xs.length ≤ 2 * i + 1) : half xs i = xs.reverse := by
  apply List.ext_getElem?
  intro j
  by_cases h : j < xs.length
  · rw [half_get _ _ _ h, List.getElem?_reverse h, List.getD_eq_getElem?_getD, List.getD_eq_getElem?_getD, List.getElem?_eq_getElem h, List.getElem?_eq_getElem (show xs.length - 1 - j < xs.length by omega)]
    split
    · rfl
    · have : j = xs.length - 1 - j := by omega
      simp only [Option.getD_some, Option.some.injEq]
      congr 1
  · rw [List.getElem?_eq_none (by rw [half_length]; omega), List.getElem?_eq_none (by simp; omega)]
theorem half_step (xs : List Int) {i : Nat} (hi : 2 * i + 1 < xs.length) :
    ((half xs i).set i (xs.getD (xs.length - 1 - i) 0)).set (xs.length - 1 - i) (xs.getD i 0) = half xs (i + 1) := by
  apply List.ext_getElem?
  intro j
  by_cases h : j < xs.length
  · rw [half_get _ _ _ h, List.getElem?_set, List.getElem?_set, half_get _ _ _ h]
    simp only [List.length_set, half_length]
    by_cases h1 : xs.length - 1 - i = j
    · subst h1
      rw [if_pos rfl, if_pos (by omega), if_pos (by omega)]
      congr 2; omega
    · rw [if_neg h1]
      by_cases h2 : i = j
      · subst h2
        rw [if_pos rfl, if_pos (by omega), if_pos (by omega)]
      · rw [if_neg h2]
        congr 1
        by_cases h3 : j < i ∨ xs.length - 1 - j < i
        · rw [if_pos h3, if_pos (by omega)]
        · rw [if_neg h3, if_neg (by omega)]
  · rw [List.getElem?_eq_none (by simp [half_length]; omega), List.getElem?_eq_none (by rw [half_length]; omega)]
theorem shorts_set (l : List Int) (i : Nat) (x : Int) : (shorts l).set i (.int .i16 x) = shorts (l.set i x) := by simp [shorts]
theorem F27_spec {k : Value → W} {w : World} {q c : Nat} {xs : List Int} (o : Own w 23 (some ⟨q, 0, none⟩) xs.length c (shorts xs)) (h0 : 0 < xs.length) (hb : xs.length < 100000)
    (hk : ∀ w', Own w' 23 (some ⟨q, 0, none⟩) xs.length c (shorts xs.reverse) → Fr (fun b => b = q) w w' → k (.tuple #[]) w') : F27 k (some ⟨q, 0, none⟩) xs.length c w := by
  unfold F27
  refine bind_intro ?_
  rw [subI_i64 (by omega) (by omega)]
  refine F27_L1_rule (fun sp sl sc i4 j5 w' => sp = some ⟨q, 0, none⟩ ∧ sl = xs.length ∧ sc = c ∧ ∃ i : Nat, i4 = i ∧ j5 = (xs.length : Int) - 1 - i ∧ 2 * i ≤ xs.length ∧ Own w' 23 (some ⟨q, 0, none⟩) xs.length c (shorts (half xs i)) ∧ Fr (fun b => b = q) w w')
    (fun _ _ _ i4 j5 _ => (j5 - i4 + 2).toNat) ?_ ⟨rfl, rfl, rfl, 0, rfl, by omega, by omega, by rw [half_zero]; exact o, Fr.refl _ _⟩
  rintro sp sl sc i4 j5 w2 ⟨hsp, hsl, hsc, i, rfl, rfl, hi, o2, f2⟩
  obtain rfl := hsp.symm; obtain rfl := hsl.symm; obtain rfl := hsc.symm
  unfold F27_L1
  by_cases hc : 2 * i + 1 < xs.length
  rotate_left
  · rw [decide_eq_false (by omega)]
    simp only [BIf_false]
    rw [half_all xs (by omega)] at o2
    exact hk w2 o2 f2
  rw [decide_eq_true (by omega)]
  simp only [BIf_true]
  refine drw_intro fun w3 f3 z3 => ?_
  have o3 := o2.fr f3 fun _ _ h => h
  have en : ((xs.length : Int) - 1 - i).toNat = xs.length - 1 - i := by omega
  have c1 : w3.cell? ⟨q, xs.length - 1 - i, none⟩ = some (.int .i16 (xs.getD (xs.length - 1 - i) 0)) := by
    rw [o3.cell (by omega), shorts_get, half_get _ _ _ (by omega), if_neg (by omega)]; rfl
  have c2 : w3.cell? ⟨q, i, none⟩ = some (.int .i16 (xs.getD i 0)) := by
    rw [o3.cell (by omega), shorts_get, half_get _ _ _ (by omega), if_neg (by omega)]; rfl
  simp only [NN_mk, Req_iff, LoadT_int, en, Int.toNat_natCast, add_mk, Nat.zero_add]
  refine ⟨by omega, _, c1, by omega, _, c2, by omega, Store1_iff.2 ⟨rfl, ⟨_, c2⟩, o3.frozen _, ?_⟩⟩
  have f4 : Fr (fun b => b = q) w3 (w3.setCell ⟨q, i, none⟩ (.int .i16 (xs.getD (xs.length - 1 - i) 0))) := Fr.setCell _ _ _ rfl
  have o4 := o3.set (show i < xs.length by omega) (.int .i16 (xs.getD (xs.length - 1 - i) 0))
  generalize w3.setCell ⟨q, i, none⟩ (.int .i16 (xs.getD (xs.length - 1 - i) 0)) = w4 at *
  refine ⟨by omega, Store1_iff.2 ⟨rfl, ⟨_, (o4.cell (by omega)).trans (List.getElem?_eq_getElem (by simp [shorts, half_length]; omega))⟩, o4.frozen _, ?_⟩⟩
  have f5 : Fr (fun b => b = q) w4 (w4.setCell ⟨q, xs.length - 1 - i, none⟩ (.int .i16 (xs.getD i 0))) := Fr.setCell _ _ _ rfl
  have o5 := o4.set (show xs.length - 1 - i < xs.length by omega) (.int .i16 (xs.getD i 0))
  generalize w4.setCell ⟨q, xs.length - 1 - i, none⟩ (.int .i16 (xs.getD i 0)) = w5 at *
  rw [shorts_set, shorts_set, half_step xs hc] at o5
  rw [add_one (by omega), subI_i64 (by omega) (by omega)]
  refine ⟨⟨(by trivial), (by trivial), (by trivial), i + 1, rfl, by omega, by omega, o5, ((f2.trans f3 fun _ h => h.elim).trans f4 fun _ h => .inl h).trans f5 fun _ h => .inl h⟩, by omega⟩
theorem F12_spec {k : Value → W} {w : World} {p : Option Addr} {l c : Nat} {xs : List Int} (hX : Shorts w p xs) (hl : l = xs.length) (h0 : 0 < xs.length) (hb : xs.length < 100000)
    (hk : ∀ q c' w', Own w' 23 q l c' (shorts xs.reverse) → Fr (fun _ => False) w w' → k (.slice q l c') w') : F12 k p l c w := by
  subst hl
  unfold F12
  refine F26_call (F26_spec hX rfl h0 hb fun q c' w1 o1 hq f1 => back_slice ?_)
  obtain ⟨q, rest, rfl, hB, hc, hm⟩ := o1.get h0
  refine F27_call (F27_spec o1 h0 hb fun w2 o2 f2 => back0 ?_)
  exact hk _ _ w2 o2 (f1.trans f2 fun b e => .inr (hq b ⟨_, rfl, e.symm⟩))

/-! ## Sorted, equal -/
theorem F28_spec {k : Value → W} {w : World} {x y : Int} (hk : k (.bool (decide (x < y))) w) : F28 k x y w := by
  unfold F28
  refine F36_call ?_
  unfold F36
  refine back_bool ?_
  rw [show (x != x) = false by simp]
  exact hk
theorem F13_spec {k : Value → W} {w : World} {p : Option Addr} {l c : Nat} {xs : List Int} (hX : Ints w p xs) (hl : l = xs.length) (hb : xs.length < 100000) (hs : xs.Pairwise (· ≤ ·))
    (hk : ∀ w', Fr (fun _ => False) w w' → k (.bool true) w') : F13 k p l c w := by
  subst hl
  unfold F13
  refine bind_intro ?_
  rw [subI_i64 (by omega) (by omega)]
  refine F13_L1_rule (fun sp sl sc i4 w' => sp = p ∧ sl = xs.length ∧ sc = c ∧ i4 < xs.length ∧ -1 ≤ i4 ∧ Fr (fun _ => False) w w') (fun _ _ _ i4 _ => i4.toNat) ?_ ⟨rfl, rfl, rfl, by omega, by omega, Fr.refl _ _⟩
  rintro sp sl sc i4 w2 ⟨hsp, hsl, hsc, hi, hi2, f2⟩
  obtain rfl := hsp.symm; obtain rfl := hsl.symm; obtain rfl := hsc.symm
  unfold F13_L1
  by_cases hp : 0 < i4
  rotate_left
  · rw [decide_eq_false (by omega)]; simp only [BIf_false]; exact hk w2 f2
  rw [decide_eq_true (by omega)]
  simp only [BIf_true]
  refine drw_intro fun w3 f3 z3 => ?_
  have f03 := f2.trans f3 fun _ h => h.elim
  obtain ⟨n, rfl⟩ : ∃ n : Nat, i4 = ((n + 1 : Nat) : Int) := ⟨(i4 - 1).toNat, by omega⟩
  have g1 : xs[n + 1]? = some (xs[n + 1]'(by omega)) := List.getElem?_eq_getElem _
  have g2 : xs[n]? = some (xs[n]'(by omega)) := List.getElem?_eq_getElem _
  have hle := List.pairwise_iff_getElem.1 hs n (n + 1) (by omega) (by omega) (by omega)
  generalize xs[n + 1]'(by omega) = x at *
  generalize xs[n]'(by omega) = y at *
  obtain ⟨a, rfl, c1⟩ := hX.fr0 f03 (n + 1) x g1
  obtain ⟨a', ha, c2⟩ := hX.fr0 f03 n y g2
  cases ha
  have e : subI .i64 ((n + 1 : Nat) : Int) 1 = (n : Int) := by rw [subI_i64 (by omega) (by omega)]; simp
  simp only [e, NN_mk, Req_iff, LoadT_int, Int.toNat_natCast]
  refine ⟨by omega, _, c1, by omega, _, c2, F28_call (F28_spec (back_bool ?_))⟩
  rw [decide_eq_false (by omega)]
  simp only [BIf_false]
  exact ⟨⟨(by trivial), (by trivial), (by trivial), by omega, by omega, f03⟩, by omega⟩
/-- Equal. -/
theorem F14_spec {k : Value → W} {w : World} {p q : Option Addr} {l c m d : Nat} {xs ys : List Int} (hX : Ints w p xs) (hY : Ints w q ys) (hl : l = xs.length) (hm : m = ys.length) (hb : xs.length < 100000)
    (hk : ∀ w', Fr (fun _ => False) w w' → k (.bool (decide (xs = ys))) w') : F14 k p l c q m d w := by
  subst hl; subst hm
  unfold F14
  by_cases hne : xs.length = ys.length
  rotate_left
  · rw [show (((xs.length : Nat) : Int) != ((ys.length : Nat) : Int)) = true by simp; omega]
    simp only [BIf_true]
    rw [show false = decide (xs = ys) from (decide_eq_false fun e => hne (by rw [e])).symm]
    exact hk w (Fr.refl _ _)
  rw [show (((xs.length : Nat) : Int) != ((ys.length : Nat) : Int)) = false by simp; omega]
  simp only [BIf_false]
  refine F14_L1_rule (fun sp sl sc tp tl tc x5 x6 w' => Fr (fun _ => False) w w' ∧ sp = p ∧ sl = xs.length ∧ tp = q ∧ tl = ys.length ∧ x5 = (xs.length : Nat) ∧ ∃ i : Nat, x6 = i ∧ i ≤ xs.length ∧ xs.take i = ys.take i) (fun _ _ _ _ _ _ x5 x6 _ => (x5 - x6).toNat) ?_ ⟨Fr.refl _ _, rfl, rfl, rfl, rfl, rfl, 0, rfl, Nat.zero_le _, by simp⟩
  rintro sp sl sc tp tl tc x5 x6 w' ⟨f, hsp, hsl, htp, htl, rfl, i, rfl, hi, he⟩
  obtain rfl := hsp.symm; obtain rfl := hsl.symm; obtain rfl := htp.symm; obtain rfl := htl.symm
  unfold F14_L1
  by_cases hil : i < xs.length
  rotate_left
  · have : i = xs.length := by omega
    subst this
    rw [decide_eq_false (by omega)]
    rw [List.take_length, hne, List.take_length] at he
    simp only [BIf_false]
    rw [show true = decide (xs = ys) from (decide_eq_true he).symm]
    exact hk w' f
  rw [decide_eq_true (by omega)]
  have hgx : xs[i]? = some (xs[i]'(by omega)) := List.getElem?_eq_getElem _
  have hgy : ys[i]? = some (ys[i]'(by omega)) := List.getElem?_eq_getElem _
  generalize xs[i]'(by omega) = x at hgx
  generalize ys[i]'(by omega) = y at hgy
  simp only [BIf_true]
  refine drw_intro fun w2 f2 z2 => ?_
  have f02 := f.trans f2 fun _ h => h.elim
  obtain ⟨a, rfl, hc⟩ := hX.fr0 f02 i x hgx
  obtain ⟨b, rfl, hd⟩ := hY.fr0 f02 i y hgy
  simp only [NN_mk, Int.toNat_natCast]
  refine ⟨by omega, LoadT_int.2 ⟨_, hc, ⟨by omega, LoadT_int.2 ⟨_, hd, ?_⟩⟩⟩⟩
  by_cases hxy : x = y
  · subst hxy
    rw [show (x != x) = false by simp]
    simp only [BIf_false]
    have e : addI .i64 (i : Nat) 1 = ((i + 1 : Nat) : Int) := by rw [addI_i64 (by omega) (by omega)]; simp
    rw [e]
    refine ⟨⟨f02, (by trivial), (by trivial), (by trivial), (by trivial), (by trivial), i + 1, rfl, by omega, ?_⟩, by omega⟩
    rw [take_snoc hgx, take_snoc hgy, he]
  · rw [show (x != y) = true by simpa using hxy]
    simp only [BIf_true]
    rw [show false = decide (xs = ys) from (decide_eq_false fun e => hxy (by rw [e, hgy] at hgx; exact (Option.some.inj hgx).symm)).symm]
    exact hk w2 f02
end Go.Proofs.Ytpjjnckgjohaeaa.E
