/-
  slices.Index, Contains, Equal over numbers; the guard over edges; Clone; the example.
-/
import Derived.Test.YtgmngfgpbjbgjaaDoorGr3
namespace Go.Proofs.YtgmngfgpbjbgjaaDoor.E
open Go
set_option linter.unusedSimpArgs false
set_option linter.unusedVariables false
set_option maxRecDepth 100000
set_option maxHeartbeats 2000000

/-- Index. -/
theorem F17_spec {k : Value → W} {w : World} {p : Option Addr} {l c : Nat} {xs : List Int} {v : Int} (hX : Ints w p xs) (hl : l = xs.length) (hb : xs.length < 100000)
    (hk : ∀ r : Int, (0 ≤ r ↔ v ∈ xs) → k (.int .i64 r) w) : F17 k p l c v w := by
  subst hl
  unfold F17
  refine F17_L1_rule (fun sp sl sc y x5 x6 w' => w' = w ∧ sp = p ∧ sl = xs.length ∧ y = v ∧ x5 = (xs.length : Nat) ∧ ∃ i : Nat, x6 = i ∧ i ≤ xs.length ∧ v ∉ xs.take i) (fun _ _ _ _ x5 x6 _ => (x5 - x6).toNat) ?_ ⟨rfl, rfl, rfl, rfl, rfl, 0, rfl, Nat.zero_le _, by simp⟩
  rintro sp sl sc y x5 x6 w' ⟨hw, hsp, hsl, hy, rfl, i, rfl, hi, hn⟩
  obtain rfl := hw.symm; obtain rfl := hsp.symm; obtain rfl := hsl.symm; obtain rfl := hy.symm
  unfold F17_L1
  by_cases hil : i < xs.length
  rotate_left
  · have : i = xs.length := by omega
    subst this
    rw [decide_eq_false (by omega)]
    rw [List.take_length] at hn
    simp only [BIf_false]
    exact hk _ ⟨fun h => absurd h (by decide), fun h => absurd h hn⟩
  rw [decide_eq_true (by omega)]
  have hget : xs[i]? = some (xs[i]'(by omega)) := List.getElem?_eq_getElem _
  have hmem : xs[i]'(by omega) ∈ xs := List.getElem_mem _
  generalize xs[i]'(by omega) = x at hget hmem
  obtain ⟨a, rfl, hc⟩ := hX i x hget
  simp only [BIf_true, NN_mk, Int.toNat_natCast]
  refine ⟨by omega, LoadT_int.2 ⟨_, hc, ?_⟩⟩
  by_cases hvx : v = x
  · subst hvx
    rw [show (v == v) = true by simp]
    simp only [BIf_true]
    exact hk _ ⟨fun _ => hmem, fun _ => by omega⟩
  · rw [show (v == x) = false by simpa using hvx]
    simp only [BIf_false]
    have e : addI .i64 (i : Nat) 1 = ((i + 1 : Nat) : Int) := by rw [addI_i64 (by omega) (by omega)]; simp
    rw [e]
    refine ⟨⟨(by trivial), (by trivial), (by trivial), (by trivial), (by trivial), i + 1, rfl, by omega, ?_⟩, by omega⟩
    rw [take_snoc hget]; simp [hn, hvx]
theorem F8_spec {k : Value → W} {w : World} {p : Option Addr} {l c : Nat} {xs : List Int} {v : Int} (hX : Ints w p xs) (hl : l = xs.length) (hb : xs.length < 100000)
    (hk : k (.bool (decide (v ∈ xs))) w) : F8 k p l c v w := by
  unfold F8
  refine F17_call (F17_spec hX hl hb fun r hr => back_int ?_)
  rw [show decide (r ≥ 0) = decide (v ∈ xs) from decide_eq_decide.2 hr]
  exact hk
/-- Equal. -/
theorem F11_spec {k : Value → W} {w : World} {p q : Option Addr} {l c m d : Nat} {xs ys : List Int} (hX : Ints w p xs) (hY : Ints w q ys) (hl : l = xs.length) (hm : m = ys.length) (hb : xs.length < 100000)
    (hk : ∀ w', Fr (fun _ => False) w w' → k (.bool (decide (xs = ys))) w') : F11 k p l c q m d w := by
  subst hl; subst hm
  unfold F11
  by_cases hne : xs.length = ys.length
  rotate_left
  · rw [show (((xs.length : Nat) : Int) != ((ys.length : Nat) : Int)) = true by simp; omega]
    simp only [BIf_true]
    rw [show false = decide (xs = ys) from (decide_eq_false fun e => hne (by rw [e])).symm]
    exact hk w (Fr.refl _ _)
  rw [show (((xs.length : Nat) : Int) != ((ys.length : Nat) : Int)) = false by simp; omega]
  simp only [BIf_false]
  refine F11_L1_rule (fun sp sl sc tp tl tc x5 x6 w' => Fr (fun _ => False) w w' ∧ sp = p ∧ sl = xs.length ∧ tp = q ∧ tl = ys.length ∧ x5 = (xs.length : Nat) ∧ ∃ i : Nat, x6 = i ∧ i ≤ xs.length ∧ xs.take i = ys.take i) (fun _ _ _ _ _ _ x5 x6 _ => (x5 - x6).toNat) ?_ ⟨Fr.refl _ _, rfl, rfl, rfl, rfl, rfl, 0, rfl, Nat.zero_le _, by simp⟩
  rintro sp sl sc tp tl tc x5 x6 w' ⟨f, hsp, hsl, htp, htl, rfl, i, rfl, hi, he⟩
  obtain rfl := hsp.symm; obtain rfl := hsl.symm; obtain rfl := htp.symm; obtain rfl := htl.symm
  unfold F11_L1
  by_cases hil : i < xs.length
  rotate_left
  · have : i = xs.length := by omega
    subst this
    rw [decide_eq_false (by omega)]
    rw [List.take_length, hne, List.take_length] at he
    simp only [BIf_false]
    rw [show true = decide (xs = ys) from (decide_eq_true he).symm]
    exact hk w' f
  rw [decide_eq_true (by omega)]
  have hgx : xs[i]? = some (xs[i]'(by omega)) := List.getElem?_eq_getElem _
  have hgy : ys[i]? = some (ys[i]'(by omega)) := List.getElem?_eq_getElem _
  generalize xs[i]'(by omega) = x at hgx
  generalize ys[i]'(by omega) = y at hgy
  simp only [BIf_true]
  refine drw_intro fun w2 f2 z2 => ?_
  have f02 := f.trans f2 fun _ h => h.elim
  obtain ⟨a, rfl, hc⟩ := hX.fr0 f02 i x hgx
  obtain ⟨b, rfl, hd⟩ := hY.fr0 f02 i y hgy
  simp only [NN_mk, Int.toNat_natCast]
  refine ⟨by omega, LoadT_int.2 ⟨_, hc, ⟨by omega, LoadT_int.2 ⟨_, hd, ?_⟩⟩⟩⟩
  by_cases hxy : x = y
  · subst hxy
    rw [show (x != x) = false by simp]
    simp only [BIf_false]
    have e : addI .i64 (i : Nat) 1 = ((i + 1 : Nat) : Int) := by rw [addI_i64 (by omega) (by omega)]; simp
    rw [e]
    refine ⟨⟨f02, (by trivial), (by trivial), (by trivial), (by trivial), (by trivial), i + 1, rfl, by omega, ?_⟩, by omega⟩
    rw [take_snoc hgx, take_snoc hgy, he]
  · rw [show (x != y) = true by simpa using hxy]
    simp only [BIf_true]
    rw [show false = decide (xs = ys) from (decide_eq_false fun e => hxy (by rw [e, hgy] at hgx; exact (Option.some.inj hgx).symm)).symm]
    exact hk w2 f02
/-- The guard. -/
def okE (q : Int × Int) : Prop := 0 ≤ q.1 ∧ q.1 ≤ 12 ∧ 0 ≤ q.2 ∧ q.2 ≤ 12
theorem F5_spec {k : Value → W} {w : World} {p : Option Addr} {l c : Nat} {es : List (Int × Int)} (hE : Edges w p es) (hl : l = es.length) (hb : es.length < 2147483648)
    (h1 : ∀ w', Fr (fun _ => False) w w' → k (.bool false) w')
    (h2 : ∀ w', Fr (fun _ => False) w w' → (∀ q ∈ es, okE q) → 0 < es.length → es.length ≤ 20 → k (.bool true) w') : F5 k p l c w := by
  subst hl
  unfold F5
  refine F5_L1_rule (fun lp ll lc sp sl sc x4 x5 w' => ll = es.length ∧ sp = p ∧ sl = es.length ∧ x4 = (es.length : Nat) ∧ Fr (fun _ => False) w w' ∧ ∃ i : Nat, x5 = i ∧ i ≤ es.length ∧ ∀ q ∈ es.take i, okE q) (fun _ _ _ _ _ _ x4 x5 _ => (x4 - x5).toNat) ?_ ⟨rfl, rfl, rfl, rfl, Fr.refl _ _, 0, rfl, Nat.zero_le _, by simp⟩
  rintro lp ll lc sp sl sc x4 x5 w2 ⟨hll, hsp, hsl, rfl, f2, i, rfl, hi, hall⟩
  obtain rfl := hll.symm; obtain rfl := hsp.symm; obtain rfl := hsl.symm
  unfold F5_L1
  by_cases hil : i < es.length
  rotate_left
  · have : i = es.length := by omega
    subst this
    rw [List.take_length] at hall
    rw [decide_eq_false (by omega)]
    simp only [BIf_false]
    refine BIf_intro (fun hc => ?_) (fun hc => h1 w2 f2)
    have hc := of_decide_eq_true hc
    refine bind_intro ?_
    by_cases h20 : es.length ≤ 20
    · rw [decide_eq_true (by omega)]; exact h2 w2 f2 hall (by omega) h20
    · rw [decide_eq_false (by omega)]; exact h1 w2 f2
  rw [decide_eq_true (by omega)]
  have hget : es[i]? = some (es[i]'(by omega)) := List.getElem?_eq_getElem _
  generalize es[i]'(by omega) = q at hget
  obtain ⟨a, rfl, c1, c2⟩ := hE.fr0 f2 i q hget
  simp only [BIf_true, NN_mk, Int.toNat_natCast]
  refine ⟨by omega, LoadT_int.2 ⟨_, c1, LoadT_int.2 ⟨_, c2, ?_⟩⟩⟩
  refine new_intro fun n w3 hn b3 f3 z3 => ?_
  refine store_intro b3 (by simp) rfl fun w4 b4 f4 z4 => ?_
  refine store_intro b4 (by simp) rfl fun w5 b5 f5 z5 => ?_
  have f25 : Fr (fun _ => False) w2 w5 := (f3.trans f4 fun x e => .inr (by have : x = n := e; omega)).trans f5 fun x e => .inr (by have : x = n := e; omega)
  have f05 := f2.trans f25 fun _ h => h.elim
  refine load_int b5 rfl ?_
  refine BIf_intro (fun _ => h1 w5 f05) fun g1 => ?_
  refine load_int b5 rfl ?_
  refine BIf_intro (fun _ => h1 w5 f05) fun g2 => ?_
  refine load_int b5 rfl ?_
  refine BIf_intro (fun _ => h1 w5 f05) fun g3 => ?_
  refine load_int b5 rfl ?_
  refine BIf_intro (fun _ => h1 w5 f05) fun g4 => ?_
  have g1 := of_decide_eq_false g1
  have g2 := of_decide_eq_false g2
  have g3 := of_decide_eq_false g3
  have g4 := of_decide_eq_false g4
  have e : addI .i64 (i : Nat) 1 = ((i + 1 : Nat) : Int) := by rw [addI_i64 (by omega) (by omega)]; simp
  rw [e]
  refine ⟨⟨(by trivial), (by trivial), (by trivial), (by trivial), f05, i + 1, rfl, by omega, ?_⟩, by omega⟩
  rw [take_snoc hget]
  intro q' hq'
  rcases List.mem_append.1 hq' with h | h
  · exact hall q' h
  · rw [List.mem_singleton] at h; subst h; exact ⟨by omega, by omega, by omega, by omega⟩

/-- Edges as cells. -/
def flat : List (Int × Int) → List Value
  | [] => []
  | q :: l => .int .i64 q.1 :: .int .i64 q.2 :: flat l
theorem flat_length : ∀ l : List (Int × Int), (flat l).length = l.length * 2
  | [] => rfl
  | q :: l => by simp [flat, flat_length l]; omega
theorem flat_append : ∀ l m : List (Int × Int), flat (l ++ m) = flat l ++ flat m
  | [], _ => rfl
  | q :: l, m => by simp [flat, flat_append l m]
theorem flat_get : ∀ (l : List (Int × Int)) (i : Nat) (q : Int × Int), l[i]? = some q → (flat l)[i * 2]? = some (.int .i64 q.1) ∧ (flat l)[i * 2 + 1]? = some (.int .i64 q.2)
  | [], _, _, h => by cases h
  | x :: l, 0, q, h => by simp at h; subst h; exact ⟨rfl, rfl⟩
  | x :: l, i + 1, q, h => by
    have := flat_get l i q (by simpa using h)
    rw [show (i + 1) * 2 = i * 2 + 1 + 1 by omega]
    simpa [flat] using this
theorem flat_one : ∀ (l : List (Int × Int)), ∀ u ∈ flat l, u.oneCell' = true
  | [], u, h => by cases h
  | q :: l, u, h => by
    simp only [flat, List.mem_cons] at h
    rcases h with rfl | rfl | h
    · rfl
    · rfl
    · exact flat_one l u h
theorem flat_read {w : World} {a : Addr} : ∀ (l : List (Int × Int)) (o : Nat), (∀ i q, l[i]? = some q → w.cell? (a.add ((o + i) * 2)) = some (.int .i64 q.1) ∧ w.cell? (a.add ((o + i) * 2 + 1)) = some (.int .i64 q.2)) → ∀ j u, (flat l)[j]? = some u → w.cell? (a.add (o * 2 + j)) = some u
  | [], _, _, j, u, h => by simp [flat] at h
  | q :: l, o, hc, 0, u, h => by
    simp [flat] at h; subst h
    have := (hc 0 q rfl).1
    simpa using this
  | q :: l, o, hc, 1, u, h => by
    simp [flat] at h; subst h
    have := (hc 0 q rfl).2
    simpa using this
  | q :: l, o, hc, j + 2, u, h => by
    have := flat_read l (o + 1) (fun i q h => by
      have := hc (i + 1) q (by simpa using h)
      rw [show o + 1 + i = o + (i + 1) by omega]; exact this) j u (by simpa [flat] using h)
    rw [show o * 2 + (j + 2) = (o + 1) * 2 + j by omega]; exact this
theorem add_add (a : Addr) (i j : Nat) : (a.add i).add j = a.add (i + j) := by
  by_cases hi : i = 0
  · subst hi; simp [Addr.add]
  · by_cases hj : j = 0
    · subst hj; simp [Addr.add, hi]
    · have : i + j ≠ 0 := by omega
      simp [Addr.add, hi, hj, this, Nat.add_assoc]
theorem OwnN.edges {w : World} {p : Option Addr} {l c : Nat} {es : List (Int × Int)} (h : OwnN w 33 2 p l c (flat es)) : Edges w p es := fun i q hq => by
  have hl := h.1
  rw [flat_length] at hl
  have hi : i < es.length := (List.getElem?_eq_some_iff.1 hq).1
  obtain ⟨b, rest, rfl, _⟩ := h.get (by omega)
  obtain ⟨h1, h2⟩ := flat_get es i q hq
  refine ⟨_, rfl, ?_, ?_⟩
  · rw [add_mk, add_mk, Nat.zero_add, h.cell (by omega)]; exact h1
  · rw [add_mk, add_mk, Nat.zero_add, h.cell (by omega)]; exact h2
/-- Clone. -/
theorem F10_spec {k : Value → W} {w : World} {p : Option Addr} {l c : Nat} {es : List (Int × Int)} (hE : Edges w p es) (hl : l = es.length) (h0 : 0 < es.length) (hb : es.length < 100000)
    (hk : ∀ q c' w', OwnN w' 33 2 q l c' (flat es) → (∀ b, bl q b → w.heap.size ≤ b) → Fr (fun _ => False) w w' → k (.slice q l c') w') : F10 k p l c w := by
  subst hl
  have hget : es[0]? = some (es[0]'(by omega)) := List.getElem?_eq_getElem _
  obtain ⟨a, rfl, _, _⟩ := hE 0 _ hget
  unfold F10
  show RawT _ _ _ _ w
  obtain ⟨ii, hi1, hi2, hi3, hi4⟩ := inf33
  refine build_none und22 hi1 fun w1 f1 b1 z1 => ?_
  have o1 : OwnN w1 33 2 (some ⟨w.heap.size, 0, none⟩) 0 0 [] := OwnN.made b1 rfl (by decide)
  have hE1 := hE.fr0 f1
  refine append_own (P := Tryd.prog) und22 hi1 hi2 hi3 (by decide) rfl (by omega) o1 (news := flat es) (flat_length es) ?_ (flat_one es) (by omega) fun p' c' w' f' o' hp' => ?_
  · intro j u hj
    have := flat_read (w := w1) (a := a) es 0 (fun i q h => by
      obtain ⟨a', ha, h1, h2⟩ := hE1 i q h
      cases ha
      rw [add_add] at h1 h2
      rw [Nat.zero_add]; exact ⟨h1, h2⟩) j u hj
    simpa using this
  · rw [Nat.zero_add, List.nil_append] at o'
    rw [Nat.zero_add]
    refine hk p' c' w' o' (fun b hb => ?_) (f1.trans f' fun b hb => .inr ?_)
    · rcases hp' b hb with h | h
      · obtain ⟨x, hx, rfl⟩ := h; cases hx; exact Nat.le_refl _
      · have := f1.size; omega
    · obtain ⟨x, hx, rfl⟩ := hb; cases hx; exact Nat.le_refl _

def z33 : Value := .agg #[.int .i64 0, .int .i64 0]
theorem fill3 : ∀ i : TypeInfo, i.size = 2 → Instr.fill (fun j => some (j * i.size, i.size)) ((Array.range (3 * i.size)).map (z33.cells[· % z33.cells.size]!))
    [(0, .agg #[.int .i64 1, .int .i64 2]), (1, .agg #[.int .i64 2, .int .i64 3]), (2, .agg #[.int .i64 3, .int .i64 3])] = some (flat [(1, 2), (2, 3), (3, 3)]).toArray := by
  intro i h
  rw [h]
  kernel_rfl
theorem fill1 (x y : Int) : ∀ i : TypeInfo, i.size = 2 → Instr.fill (fun j => some (j * i.size, i.size)) ((Array.range (1 * i.size)).map (z33.cells[· % z33.cells.size]!)) [(0, .agg #[.int .i64 x, .int .i64 y])] = some (flat [(x, y)]).toArray := by
  intro i h
  rw [h]
  kernel_rfl
def z3 : Value := .int .i64 0
theorem fillI3 (x y z : Int) : ∀ i : TypeInfo, i.size = 1 → Instr.fill (fun j => some (j * i.size, i.size)) ((Array.range (3 * i.size)).map (z3.cells[· % z3.cells.size]!)) [(0, .int .i64 x), (1, .int .i64 y), (2, .int .i64 z)] = some (ints [x, y, z]).toArray := by
  intro i h
  rw [h]
  kernel_rfl
theorem fillI1 (x : Int) : ∀ i : TypeInfo, i.size = 1 → Instr.fill (fun j => some (j * i.size, i.size)) ((Array.range (1 * i.size)).map (z3.cells[· % z3.cells.size]!)) [(0, .int .i64 x)] = some (ints [x]).toArray := by
  intro i h
  rw [h]
  kernel_rfl
/-- A literal list of numbers can be read. -/
theorem ints_of_blk {w : World} {q : Nat} {xs : List Int} (h : Blk w q 3 (ints xs)) : Ints w (some ⟨q, 0, none⟩) xs := fun i x hx => ⟨_, rfl, by rw [add_mk, Nat.zero_add, h.cell, ints_get, hx]; rfl⟩

theorem ex1 : (grun G0 [(1, 2), (2, 3), (3, 3)]).2 = [0, 0, 2] ∧ (grun G0 [(1, 2), (2, 3), (3, 3)]).1.vs.length = 3 ∧ (grun G0 [(1, 2), (2, 3), (3, 3)]).1.e = 2 := by decide
theorem ex2 : 2 ∈ (grun G0 [(1, 2)]).1.vs ∧ (grun G0 [(1, 2)]).1.nb 2 = [1] := by decide

/-- The example. -/
theorem F9_spec {k : Value → W} {w : World} {base : Nat} {a0 a1 a2 : Addr} (hs : Sent w base a0 a1 a2) (hk : ∀ w', Fr (fun _ => False) w w' → k (.bool true) w') : F9 k w := by
  obtain ⟨i33, g1, g2, g3, g4⟩ := inf33
  obtain ⟨i3, h1, h2, h3, h4, h5⟩ := inf3
  unfold F9
  refine build_intro und22 g1 g2 (by omega) (by omega) (fill3 i33 g3) fun w1 f1 b1 z1 => ?_
  have e1 : Edges w1 (some ⟨w.heap.size, 0, none⟩) [(1, 2), (2, 3), (3, 3)] := (OwnN.made (n := 3) b1 rfl (by decide)).edges
  have s1 := hs.fr0 f1
  refine F6_call (F6_spec e1 rfl s1 (by decide) fun ep ec w2 o2 f2 => back_run ?_)
  rw [ex1.1, ex1.2.1, ex1.2.2] at *
  have s2 := s1.fr0 f2
  refine build_intro und22 g1 g2 (by omega) (by omega) (fill1 1 2 i33 g3) fun w3 f3 b3 z3 => ?_
  have e3 : Edges w3 (some ⟨w2.heap.size, 0, none⟩) [(1, 2)] := (OwnN.made (n := 1) b3 rfl (by decide)).edges
  have s3 := s2.fr0 f3
  refine F7_call (F7_spec e3 rfl s3 (by decide) (by rw [ex2.2]; decide) fun xs q m c w4 hm hp o4 f4 => back_adj ?_)
  have hp := hp ex2.1
  rw [ex2.2] at hp
  obtain rfl := List.perm_singleton.1 hp
  subst hm
  rw [if_pos ex2.1]
  simp only [show ((((3 : Nat) : Int) == 3) = true) from rfl, show ((((2 : Nat) : Int) == 2) = true) from rfl, BIf_true]
  refine build_intro und24 h1 h2 (by omega) (by omega) (fillI3 0 0 2 i3 h3) fun w5 f5 b5 z5 => ?_
  have f25 : Fr (fun _ => False) w2 w5 := (f3.trans f4 fun _ h => h.elim).trans f5 fun _ h => h.elim
  refine F11_call (F11_spec (o2.fr f25 fun _ _ h => h).ints (ints_of_blk b5) rfl rfl (by decide) fun w6 f6 => back_bool ?_)
  simp only [decide_true, BIf_true, show ((0 : Int) == 0) = true from rfl]
  refine build_intro und24 h1 h2 (by omega) (by omega) (fillI1 1 i3 h3) fun w7 f7 b7 z7 => ?_
  have f47 : Fr (fun _ => False) w4 w7 := (f5.trans f6 fun _ h => h.elim).trans f7 fun _ h => h.elim
  refine F11_call (F11_spec (o4.fr f47 fun _ _ h => h).ints (ints_of_blk b7) rfl rfl (by decide) fun w8 f8 => back_bool ?_)
  simp only [decide_true]
  exact hk w8 ((((f1.trans f2 fun _ h => h.elim).trans f25 fun _ h => h.elim).trans (f6.trans f7 fun _ h => h.elim) fun _ h => h.elim).trans f8 fun _ h => h.elim)
end Go.Proofs.YtgmngfgpbjbgjaaDoor.E
