/-
  What a set says behind the last step, and the law: what is added or removed a second time changes nothing.
-/
import Derived.Test.YtokejbejoegnnaaST3
import Derived.Test.YtokejbejoegnnaaRow
import Derived.Shelf.SortM.SortNone
namespace Go.Proofs.Ytokejbejoegnnaa.E
open Go Go.Sort
set_option linter.unusedSimpArgs false
set_option linter.unusedVariables false
set_option maxRecDepth 100000
set_option maxHeartbeats 4000000

theorem ints_one (xs : List Int) : ∀ u ∈ ints xs, u.oneCell' = true := by
  intro u hu
  obtain ⟨x, _, rfl⟩ := List.mem_map.1 hu
  rfl
theorem reads_ints {w : World} {a : Addr} {xs : List Int} (h : Ints w (some a) xs) : ∀ j u, (ints xs)[j]? = some u → w.cell? (a.add j) = some u := by
  intro j u hj
  rw [ints_get] at hj
  cases hx : xs[j]? with
  | none => rw [hx] at hj; cases hj
  | some x =>
    rw [hx] at hj; cases hj
    obtain ⟨a', ha, hc⟩ := h j x hx
    cases ha; exact hc
theorem F7_spec {k : Value → W} {w : World} {p : Option Addr} {l c : Nat} (h1 : k (.bool false) w) (h2 : 0 < l → l ≤ 30 → k (.bool true) w) : F7 k p l c w := by
  unfold F7
  refine BIf_intro (fun hc => ?_) fun _ => h1
  have hc := of_decide_eq_true hc
  refine bind_intro ?_
  by_cases h : l ≤ 30
  · rw [decide_eq_true (by omega)]; exact h2 (by omega) h
  · rw [decide_eq_false (by omega)]; exact h1

/-- Numbers of 16 bits. -/
def I16 (xs : List Int) : Prop := ∀ x ∈ xs, -32768 ≤ x ∧ x < 32768
/-- dsInts. -/
theorem F8_spec {k : Value → W} {w : World} {p : Option Addr} {l c : Nat} {xs : List Int} (hX : Shorts w p xs) (hl : l = xs.length) (hb : xs.length < 100000) (hx : I16 xs)
    (hk : ∀ q c' w', Own w' 3 q l c' (ints xs) → (∀ b, bl q b → w.heap.size ≤ b) → Fr (fun _ => False) w w' → k (.slice q l c') w') : F8 k p l c w := by
  subst hl
  unfold F8
  refine F8_L1_rule (fun op ol oc sp sl sc x6 x7 w' => sp = p ∧ sl = xs.length ∧ x6 = (xs.length : Nat) ∧ ∃ i : Nat, x7 = i ∧ i ≤ xs.length ∧ ol = i ∧ Own w' 3 op i oc (ints (xs.take i)) ∧ (∀ b, bl op b → w.heap.size ≤ b) ∧ Fr (fun _ => False) w w')
    (fun _ _ _ _ _ _ x6 x7 _ => (x6 - x7).toNat) ?_ ⟨rfl, rfl, rfl, 0, rfl, Nat.zero_le _, rfl, Own.nil _ _, fun b hb => (by obtain ⟨a, h, _⟩ := hb; cases h), Fr.refl _ _⟩
  rintro op ol oc sp sl sc x6 x7 w2 ⟨hsp, hsl, rfl, i, rfl, hi, hol, o2, hb2, f2⟩
  obtain rfl := hsp.symm; obtain rfl := hsl.symm; obtain rfl := hol.symm
  unfold F8_L1
  by_cases hil : i < xs.length
  rotate_left
  · have : i = xs.length := by omega
    subst this
    rw [decide_eq_false (by omega)]
    rw [List.take_length] at o2
    simp only [BIf_false]
    exact hk _ _ _ o2 hb2 f2
  rw [decide_eq_true (by omega)]
  have hget : xs[i]? = some (xs[i]'(by omega)) := List.getElem?_eq_getElem _
  have hbx := hx _ (List.getElem_mem (show i < xs.length by omega))
  generalize xs[i]'(by omega) = x at hget hbx
  obtain ⟨a, rfl, hc⟩ := hX.fr0 f2 i x hget
  simp only [BIf_true, NN_mk, Int.toNat_natCast]
  refine ⟨by omega, LoadT_int.2 ⟨_, hc, ?_⟩⟩
  rw [wrap_i64 (by omega) (by omega), add_one (by omega)]
  obtain ⟨ii, hi1, hi2, hi3, hi4, hi5⟩ := inf3
  refine append1 (P := Try.prog) und24 hi1 hi2 hi3 rfl (by omega) o2 rfl rfl (by omega) fun p7 c7 w7 f7 o7 hp7 hs7 => ?_
  refine ⟨⟨(by trivial), (by trivial), (by trivial), i + 1, rfl, by omega, (by trivial), ?_, ?_, f2.trans f7 fun b hb => .inr (hb2 b hb)⟩, by omega⟩
  · rw [take_snoc hget, ints_append]; exact o7
  · intro b hb
    rcases hp7 b hb with h | h
    · exact hb2 b h
    · exact Nat.le_trans f2.size h
/-- Equal. -/
theorem F10_spec {k : Value → W} {w : World} {p q : Option Addr} {l c m d : Nat} {xs ys : List Int} (hX : Ints w p xs) (hY : Ints w q ys) (hl : l = xs.length) (hm : m = ys.length) (hb : xs.length < 100000)
    (hk : ∀ w', Fr (fun _ => False) w w' → k (.bool (decide (xs = ys))) w') : F10 k p l c q m d w := by
  subst hl; subst hm
  unfold F10
  by_cases hne : xs.length = ys.length
  rotate_left
  · rw [show (((xs.length : Nat) : Int) != ((ys.length : Nat) : Int)) = true by simp; omega]
    simp only [BIf_true]
    rw [show false = decide (xs = ys) from (decide_eq_false fun e => hne (by rw [e])).symm]
    exact hk w (Fr.refl _ _)
  rw [show (((xs.length : Nat) : Int) != ((ys.length : Nat) : Int)) = false by simp; omega]
  simp only [BIf_false]
  refine F10_L1_rule (fun sp sl sc tp tl tc x5 x6 w' => Fr (fun _ => False) w w' ∧ sp = p ∧ sl = xs.length ∧ tp = q ∧ tl = ys.length ∧ x5 = (xs.length : Nat) ∧ ∃ i : Nat, x6 = i ∧ i ≤ xs.length ∧ xs.take i = ys.take i) (fun _ _ _ _ _ _ x5 x6 _ => (x5 - x6).toNat) ?_ ⟨Fr.refl _ _, rfl, rfl, rfl, rfl, rfl, 0, rfl, Nat.zero_le _, by simp⟩
  rintro sp sl sc tp tl tc x5 x6 w' ⟨f, hsp, hsl, htp, htl, rfl, i, rfl, hi, he⟩
  obtain rfl := hsp.symm; obtain rfl := hsl.symm; obtain rfl := htp.symm; obtain rfl := htl.symm
  unfold F10_L1
  by_cases hil : i < xs.length
  rotate_left
  · have : i = xs.length := by omega
    subst this
    rw [decide_eq_false (by omega)]
    rw [List.take_length, hne, List.take_length] at he
    simp only [BIf_false]
    rw [show true = decide (xs = ys) from (decide_eq_true he).symm]
    exact hk w' f
  rw [decide_eq_true (by omega)]
  have hgx : xs[i]? = some (xs[i]'(by omega)) := List.getElem?_eq_getElem _
  have hgy : ys[i]? = some (ys[i]'(by omega)) := List.getElem?_eq_getElem _
  generalize xs[i]'(by omega) = x at hgx
  generalize ys[i]'(by omega) = y at hgy
  simp only [BIf_true]
  refine drw_intro fun w2 f2 z2 => ?_
  have f02 := f.trans f2 fun _ h => h.elim
  obtain ⟨a, rfl, hc⟩ := hX.fr0 f02 i x hgx
  obtain ⟨b, rfl, hd⟩ := hY.fr0 f02 i y hgy
  simp only [NN_mk, Int.toNat_natCast]
  refine ⟨by omega, LoadT_int.2 ⟨_, hc, ⟨by omega, LoadT_int.2 ⟨_, hd, ?_⟩⟩⟩⟩
  by_cases hxy : x = y
  · subst hxy
    rw [show (x != x) = false by simp]
    simp only [BIf_false]
    have e : addI .i64 (i : Nat) 1 = ((i + 1 : Nat) : Int) := by rw [addI_i64 (by omega) (by omega)]; simp
    rw [e]
    refine ⟨⟨f02, (by trivial), (by trivial), (by trivial), (by trivial), (by trivial), i + 1, rfl, by omega, ?_⟩, by omega⟩
    rw [take_snoc hgx, take_snoc hgy, he]
  · rw [show (x != y) = true by simpa using hxy]
    simp only [BIf_true]
    rw [show false = decide (xs = ys) from (decide_eq_false fun e => hxy (by rw [e, hgy] at hgx; exact (Option.some.inj hgx).symm)).symm]
    exact hk w2 f02
/-- Clone. -/
theorem F20_spec {k : Value → W} {w : World} {p : Option Addr} {l c : Nat} {xs : List Int} (hX : Ints w p xs) (hl : l = xs.length) (h0 : 0 < xs.length) (hb : xs.length < 100000)
    (hk : ∀ q c' w', Own w' 3 q l c' (ints xs) → (∀ b, bl q b → w.heap.size ≤ b) → Fr (fun _ => False) w w' → k (.slice q l c') w') : F20 k p l c w := by
  subst hl
  obtain ⟨a, rfl, _⟩ := hX 0 _ (List.getElem?_eq_getElem h0)
  unfold F20
  show RawT _ _ _ _ w
  obtain ⟨ii, hi1, hi2, hi3, hi4, hi5⟩ := inf3
  refine build_none und24 hi1 fun w1 f1 b1 z1 => ?_
  have o1 : OwnN w1 3 1 (some ⟨w.heap.size, 0, none⟩) 0 0 [] := OwnN.made b1 rfl (by decide)
  refine append_own (P := Try.prog) und24 hi1 hi2 hi3 (by decide) rfl (by omega) o1 (news := ints xs) (by simp) (reads_ints (hX.fr0 f1)) (ints_one xs) (by omega) fun p' c' w' f' o' hp' => ?_
  rw [Nat.zero_add, List.nil_append] at o'
  rw [Nat.zero_add]
  refine hk p' c' w' (Own.ofN o') (fun b hb => ?_) (f1.trans f' fun b hb => .inr ?_)
  · rcases hp' b hb with h | h
    · obtain ⟨x, hx, rfl⟩ := h; cases hx; exact Nat.le_refl _
    · have := f1.size; omega
  · obtain ⟨x, hx, rfl⟩ := hb; cases hx; exact Nat.le_refl _
theorem ren5 : Try.so5_ren.f 5 = 21 := rfl
/-- slices.Sort. -/
theorem F21_spec {w : World} {q c : Nat} {xs : List Int} {rest : List Value} {R : Ending → World → Prop} (hB : Blk w q 3 (ints xs ++ rest)) (hb : xs.length < 100000)
    (hk : ∀ w', Blk w' q 3 (ints (srt xs) ++ rest) → Fr (fun b => b = q) w w' → R (.returned (.tuple #[])) w') : Calls Try.prog 21 #[.slice (some ⟨q, 0, none⟩) xs.length c] w R := by
  have hH := holds_of (enc := Value.int .i64) (xs := xs) hB
  have hS := AnyM.slices_Sort_int Try.so5 q 0 c xs w hH hB.lt (by omega)
  rw [ren5] at hS
  refine hS.mono fun e w' ⟨he, n, os, hw⟩ => ?_
  subst he
  have := blk_sorted (os := os) (n := n) (enc := Value.int .i64) (ys := srt xs) hB (srt_len xs)
  unfold srt at this
  rw [← hw] at this
  exact hk _ this.1 this.2
/-- dxSorted. -/
theorem F11_spec {k : Value → W} {w : World} {p : Option Addr} {l c : Nat} {xs : List Int} (hX : Ints w p xs) (hl : l = xs.length) (h0 : 0 < xs.length) (hb : xs.length < 100000)
    (hk : ∀ q c' w', Own w' 3 q l c' (ints (srt xs)) → Fr (fun _ => False) w w' → k (.slice q l c') w') : F11 k p l c w := by
  subst hl
  unfold F11
  refine F20_call (F20_spec hX rfl h0 hb fun q c' w1 o1 hq f1 => back_slice ?_)
  obtain ⟨q, rest, rfl, hB, hc, hm⟩ := o1.get h0
  refine F21_spec hB hb fun w2 hB2 f2 => back0 ?_
  refine hk _ _ w2 ⟨by simp [srt_len], .inr ⟨q, rest, rfl, hB2, ?_, hm⟩⟩ (f1.trans f2 fun b e => .inr (hq b ⟨_, rfl, e.symm⟩))
  rw [← hc]; simp [srt_len]
theorem shorts_of {w : World} {a : Option Addr} {len cap : Nat} {zs : List Int} (h : IsRow .i16 w a len cap zs) : Shorts w a (zs.take len) ∧ len = (zs.take len).length ∧ I16 (zs.take len) := by
  rcases h with ⟨rfl, rfl, rfl, rfl⟩ | ⟨x, rfl, h1, h2, h3, h4, h5⟩
  · exact ⟨fun i x hx => by simp at hx, rfl, fun x hx => by simp at hx⟩
  · refine ⟨fun i y hy => ⟨x, rfl, ?_⟩, by simp; omega, fun y hy => wf_i16 (h5 y (List.mem_of_mem_take hy))⟩
    have hi : i < (zs.take len).length := (List.getElem?_eq_some_iff.1 hy).1
    simp only [List.length_take] at hi
    rw [h4 i (by omega)]
    rw [List.getElem?_take, if_pos (by omega)] at hy
    rw [List.getD_eq_getElem?_getD, hy]; rfl

/-- Entries of a literal list of steps. -/
structure Ent where
  op : Int
  items : List Int
  ip : Option Addr
  ic : Nat
def ecells : List Ent → List Value
  | [] => []
  | e :: l => .int .i64 e.op :: .slice e.ip e.items.length e.ic :: ecells l
theorem ecells_get : ∀ (l : List Ent) (i : Nat) (e : Ent), l[i]? = some e → (ecells l)[i * 2]? = some (.int .i64 e.op) ∧ (ecells l)[i * 2 + 1]? = some (.slice e.ip e.items.length e.ic)
  | [], _, _, h => by cases h
  | x :: l, 0, e, h => by simp at h; subst h; exact ⟨rfl, rfl⟩
  | x :: l, i + 1, e, h => by
    have := ecells_get l i e (by simpa using h)
    rw [show (i + 1) * 2 = i * 2 + 1 + 1 by omega]
    simpa [ecells] using this
theorem steps_of {w : World} {q : Nat} {l : List Ent} (hB : Blk w q 32 (ecells l)) (h : ∀ e ∈ l, Ints w e.ip e.items ∧ ∀ b, bl e.ip b → b < w.heap.size) : Steps w (some ⟨q, 0, none⟩) (l.map fun e => (e.op, e.items)) := fun i p hp => by
  rw [List.getElem?_map] at hp
  cases he : l[i]? with
  | none => rw [he] at hp; cases hp
  | some e =>
    rw [he] at hp
    simp only [Option.map_some, Option.some.injEq] at hp
    subst hp
    obtain ⟨h1, h2⟩ := ecells_get l i e he
    obtain ⟨h3, h4⟩ := h e (List.mem_of_getElem? he)
    refine ⟨_, e.ip, e.ic, rfl, ?_, ?_, h3, h4⟩
    · rw [add_mk, add_mk, Nat.zero_add, hB.cell]; exact h1
    · rw [add_mk, add_mk, Nat.zero_add, hB.cell]; exact h2
theorem fillS1 (a : Ent) : ∀ i : TypeInfo, i.size = 2 → Instr.fill (fun j => some (j * i.size, i.size)) ((Array.range (1 * i.size)).map (z32.cells[· % z32.cells.size]!)) [(0, .agg #[.int .i64 a.op, .slice a.ip a.items.length a.ic])] = some (ecells [a]).toArray := by
  intro i h
  rw [h]
  kernel_rfl
theorem fillS3 (a b c : Ent) : ∀ i : TypeInfo, i.size = 2 → Instr.fill (fun j => some (j * i.size, i.size)) ((Array.range (3 * i.size)).map (z32.cells[· % z32.cells.size]!)) [(0, .agg #[.int .i64 a.op, .slice a.ip a.items.length a.ic]), (1, .agg #[.int .i64 b.op, .slice b.ip b.items.length b.ic]), (2, .agg #[.int .i64 c.op, .slice c.ip c.items.length c.ic])] = some (ecells [a, b, c]).toArray := by
  intro i h
  rw [h]
  kernel_rfl
theorem fillI3 (x y z : Int) : ∀ i : TypeInfo, i.size = 1 → Instr.fill (fun j => some (j * i.size, i.size)) ((Array.range (3 * i.size)).map ((Value.int .i64 0).cells[· % (Value.int .i64 0).cells.size]!)) [(0, .int .i64 x), (1, .int .i64 y), (2, .int .i64 z)] = some (ints [x, y, z]).toArray := by
  intro i h
  rw [h]
  kernel_rfl
theorem ints_of_blk {w : World} {e : TypeId} {q : Nat} {xs : List Int} (h : Blk w q e (ints xs)) : Ints w (some ⟨q, 0, none⟩) xs := fun i x hx => ⟨_, rfl, by rw [add_mk, Nat.zero_add, h.cell, ints_get, hx]; rfl⟩
theorem back_said {f : Int → Option Addr → Nat → Nat → Bool → Option Addr → Nat → Nat → Bool → W} {r : Rec} {w : World} {b : Bool} (h : f r.n r.fp r.fl r.fc r.al r.ep r.el r.ec b w) :
    Back (.tup [(.agg [(.int .i64), .slice, .bool, .slice]), (.one .bool)]) f (.returned (.tuple #[.agg #[.int .i64 r.n, .slice r.fp r.fl r.fc, .bool r.al, .slice r.ep r.el r.ec], .bool b])) w := ⟨(r.n, (r.fp, r.fl, r.fc), r.al, (r.ep, r.el, r.ec), b, ()), rfl, h⟩
/-- A record among those that were told. -/
theorem rec_cells {w : World} {p : Option Addr} {l c : Nat} {rs : List Rec} {i : Nat} {r : Rec} (h : OwnN w 28 4 p l c (rflat rs)) (hr : rs[i]? = some r) : ∃ q, p = some ⟨q, 0, none⟩ ∧ w.cell? ⟨q, i * 4, none⟩ = some (.int .i64 r.n) ∧ w.cell? ⟨q, i * 4 + 1, none⟩ = some (.slice r.fp r.fl r.fc) ∧ w.cell? ⟨q, i * 4 + 2, none⟩ = some (.bool r.al) ∧ w.cell? ⟨q, i * 4 + 3, none⟩ = some (.slice r.ep r.el r.ec) := by
  have hl := h.1
  rw [rflat_length] at hl
  have hi : i < rs.length := (List.getElem?_eq_some_iff.1 hr).1
  obtain ⟨q, rest, rfl, _⟩ := h.get (by omega)
  obtain ⟨h1, h2, h3, h4⟩ := rflat_get rs i r hr
  exact ⟨q, rfl, by rw [h.cell (by omega)]; exact h1, by rw [h.cell (by omega)]; exact h2, by rw [h.cell (by omega)]; exact h3, by rw [h.cell (by omega)]; exact h4⟩
/-- dsSaid. -/
theorem F9_spec {k : Value → W} {w : World} {p1 p2 : Option Addr} {l1 c1 l2 c2 : Nat} {xs S : List Int} {st : List (Int × List Int)} {q : Int × List Int} (hX : Ints w p1 xs) (hl1 : l1 = xs.length) (hxl : xs.length ≤ 100) (hT : Steps w p2 st) (hl2 : l2 = st.length) (h0 : 0 < st.length) (hst : st.length ≤ 10) (hops : opsOk st)
    (hS : (runK (addAll [] xs) st)[st.length - 1]? = some S) (hq : st[st.length - 1]? = some q)
    (hk : ∀ r w' base, ROk w' base r S q.2 → w.heap.size ≤ base → Fr (fun _ => False) w w' → k (.tuple #[.agg #[.int .i64 r.n, .slice r.fp r.fl r.fc, .bool r.al, .slice r.ep r.el r.ec], .bool true]) w') : F9 k p1 l1 c1 p2 l2 c2 w := by
  subst hl1; subst hl2
  obtain ⟨i3, t1, t2, t3, t4, t5⟩ := inf3
  obtain ⟨i32, q1, q2, q3, q4⟩ := inf32
  unfold F9
  refine new_intro fun n3 w1 e1 b1 f1 z1 => ?_
  refine build_intro (z := .int .i64 0) und24 t1 t2 (by omega) (by omega) (fillI3 4 9 4 i3 t3) fun w2 f2 b2 z2 => ?_
  refine build_intro (z := .int .i64 0) und24 t1 t2 (by omega) (by omega) (fillI1 9 i3 t3) fun w3 f3 b3 z3 => ?_
  refine build_intro (z := z32) und33 q1 q2 (by omega) (by omega) (fillS1 ⟨2, [9], some ⟨w2.heap.size, 0, none⟩, 1⟩ i32 q3) fun w4 f4 b4 z4 => ?_
  have hst4 := steps_of (l := [⟨2, [9], some ⟨w2.heap.size, 0, none⟩, 1⟩]) b4 fun e he => by
    simp only [List.mem_singleton] at he
    subst he
    exact ⟨(ints_of_blk (xs := [9]) b3).fr0 f4, fun b ⟨a, h, e⟩ => by cases h; have : w2.heap.size = b := e; omega⟩
  have hx4 := ((ints_of_blk b2).fr0 f3).fr0 f4
  refine F19_call (F19_spec (xs := [4, 9, 4]) (st := [(2, [9])]) hx4 rfl (by decide) hst4 rfl (by decide) (fun q hq => by simp only [List.mem_singleton] at hq; subst hq; exact ⟨.inr (.inl rfl), by decide⟩) fun rs p c w5 base hbase hR o5 f5 => back_slice ?_)
  have hrl : rs.length = 1 := hR.1
  obtain ⟨r0, hr0⟩ : ∃ r, rs[0]? = some r := ⟨rs[0], List.getElem?_eq_getElem (by omega)⟩
  have hok := hR.2 0 r0 [4] (2, [9]) hr0 (by decide) rfl
  obtain ⟨qb, rfl, k0, k1, k2, k3⟩ := rec_cells o5 hr0
  have f15 : Fr (fun _ => False) w1 w5 := ((f2.trans f3 fun _ h => h.elim).trans f4 fun _ h => h.elim).trans f5 fun _ h => h.elim
  have f05 := f1.trans f15 fun _ h => h.elim
  rw [show (((1 : Nat) : Int) != 1) = false from rfl]
  simp only [BIf_false, NN_mk]
  refine ⟨by decide, LoadT_int.2 ⟨_, k0, ?_⟩⟩
  rw [hok.n, show ((((([4] : List Int).length : Nat) : Int)) != 1) = false from rfl]
  simp only [BIf_false, NN_mk]
  refine ⟨by decide, LoadT_slice.2 ⟨_, _, _, k1, ?_⟩⟩
  refine build_intro (z := .int .i64 0) und24 t1 t2 (by omega) (by omega) (fillI1 4 i3 t3) fun w6 f6 b6 z6 => ?_
  obtain ⟨ys, hp, hfl, oF⟩ := hok.flat
  have hys : ys = [4] := List.perm_singleton.1 hp
  subst hys
  refine F10_call (F10_spec (oF.fr f6 fun _ _ h => h).ints (ints_of_blk (xs := [4]) b6) hfl rfl (by decide) fun w7 f7 => back_bool ?_)
  rw [decide_eq_true rfl]
  simp only [Bool.not_true, BIf_false]
  unfold F9_J1
  rw [show (((st.length : Nat) : Int) == 0) = false by rw [beq_eq_false_iff_ne]; omega]
  simp only [BIf_false]
  have f07 : Fr (fun _ => False) w w7 := (f05.trans f6 fun _ h => h.elim).trans f7 fun _ h => h.elim
  refine F19_call (F19_spec (hX.fr0 f07) rfl hxl (hT.fr0 f07) rfl hst hops fun rs' p' c' w8 base' hbase' hR' o8 f8 => back_slice ?_)
  have hrl' : rs'.length = st.length := hR'.1
  obtain ⟨r, hr⟩ : ∃ r, rs'[st.length - 1]? = some r := ⟨rs'[st.length - 1], List.getElem?_eq_getElem (by omega)⟩
  have hok' := hR'.2 (st.length - 1) r S q hr hS hq
  obtain ⟨qc, rfl, j0, j1, j2, j3⟩ := rec_cells o8 hr
  rw [show (((st.length : Nat) : Int) != ((st.length : Nat) : Int)) = false by simp]
  have es : subI .i64 ((st.length : Nat) : Int) 1 = ((st.length - 1 : Nat) : Int) := by rw [subI_i64 (by omega) (by omega)]; omega
  simp only [BIf_false, NN_mk, es, Int.toNat_natCast, add_mk, Nat.zero_add, Nat.add_zero]
  refine ⟨by omega, LoadT_int.2 ⟨_, j0, LoadT_slice.2 ⟨_, _, _, j1, LoadT_bool.2 ⟨_, j2, LoadT_slice.2 ⟨_, _, _, j3, ?_⟩⟩⟩⟩⟩
  have f18 : Fr (fun _ => False) w1 w8 := ((f15.trans f6 fun _ h => h.elim).trans f7 fun _ h => h.elim).trans f8 fun _ h => h.elim
  have b8 := b1.fr f18 id
  refine store_intro (i := 0) b8 (by simp) rfl fun w9 b9 f9 _ => ?_
  refine store_intro (i := 1) b9 (by simp) rfl fun wa ba fa _ => ?_
  refine store_intro (i := 2) ba (by simp) rfl fun wb bb fb _ => ?_
  refine store_intro (i := 3) bb (by simp) rfl fun wc bc fc _ => ?_
  refine load_int (i := 0) bc rfl (load_slice (i := 1) bc rfl (load_bool (i := 2) bc rfl (load_slice (i := 3) bc rfl ?_)))
  have f8c : Fr (fun x => x = n3) w8 wc := ((f9.trans fa fun _ h => .inl h).trans fb fun _ h => .inl h).trans fc fun _ h => .inl h
  have f08 := f07.trans f8 fun _ h => h.elim
  have hn3 : n3 < w1.heap.size := b1.lt
  have f17 := (f15.trans f6 fun _ h => h.elim).trans f7 fun _ h => h.elim
  refine hk r wc base' (hok'.fr f8c fun b e => .inl (by have : b = n3 := e; have := f17.size; omega)) (by have := f07.size; omega) (f08.trans f8c fun b e => .inr (by have : b = n3 := e; omega))

/-- dxSorted, of whatever numbers. -/
theorem F11_gen {k : Value → W} {w : World} {p : Option Addr} {l c : Nat} {xs : List Int} (o : Own w 3 p l c (ints xs)) (hb : xs.length < 100000)
    (hk : ∀ q c' w', Own w' 3 q l c' (ints (srt xs)) → Fr (fun _ => False) w w' → k (.slice q l c') w') : F11 k p l c w := by
  have hl : l = xs.length := by have := o.1; simpa using this.symm
  by_cases h0 : 0 < xs.length
  · exact F11_spec o.ints hl h0 hb hk
  · have hx : xs = [] := List.length_eq_zero_iff.1 (by omega)
    subst hx
    subst hl
    have hs : srt [] = [] := List.perm_nil.1 (srt_perm [])
    rw [hs] at hk
    unfold F11
    refine F20_call ?_
    have fin : ∀ q c' w', Own w' 3 q 0 c' (ints []) → Fr (fun _ => False) w w' → Back (.s (.one .slice)) (fun p l c => CallT Try.prog 21 [.slice p l c] (.tup []) (k (.slice p l c))) (.returned (.slice q 0 c')) w' := by
      intro q c' w' o' f'
      refine back_slice ?_
      have hS := AnyM.slices_Sort_int_none Try.so5 q c' w'
      rw [ren5] at hS
      refine hS.mono fun e w2 ⟨he, hw⟩ => ?_
      subst he; subst hw
      exact back0 (hk q c' w2 o' f')
    unfold F20
    cases p with
    | none => exact fin none 0 w (Own.nil _ _) (Fr.refl _ _)
    | some a =>
      show RawT _ _ _ _ w
      obtain ⟨ii, hi1, hi2, hi3, hi4, hi5⟩ := inf3
      refine build_none und24 hi1 fun w1 f1 b1 z1 => ?_
      have o1 : OwnN w1 3 1 (some ⟨w.heap.size, 0, none⟩) 0 0 [] := OwnN.made b1 rfl (by decide)
      refine append_own (P := Try.prog) und24 hi1 hi2 hi3 (by decide) rfl (by omega) o1 (news := []) (m := 0) rfl (fun j u h => by cases h) (fun u h => by cases h) (by decide) fun p' c' w' f' o' hp' => ?_
      exact fin p' c' w' (Own.ofN o') (f1.trans f' fun b ⟨x, hx, e⟩ => .inr (by cases hx; exact Nat.le_of_eq e))
/-- FnSTOnce. -/
theorem F3_spec {k : Value → W} {w : World} {p1 p2 : Option Addr} {l1 c1 l2 c2 : Nat} {x y : List Int} (hX : Shorts w p1 x) (hl1 : l1 = x.length) (hx : I16 x) (hY : Shorts w p2 y) (hl2 : l2 = y.length) (hy : I16 y)
    (hk : ∀ w', Fr (fun _ => False) w w' → k (.bool true) w') : F3 k p1 l1 c1 p2 l2 c2 w := by
  have hw := hk w (Fr.refl _ _)
  subst hl1; subst hl2
  unfold F3
  refine BIf_intro (fun _ => hw) fun _ => BIf_intro (fun _ => hw) fun _ => ?_
  refine F7_call (F7_spec (back_bool hw) fun h1 _ => back_bool ?_)
  simp only [Bool.not_true, BIf_false]
  refine F7_call (F7_spec (back_bool hw) fun h2 _ => back_bool ?_)
  simp only [Bool.not_true, BIf_false]
  refine BIf_intro (fun _ => hw) fun g1 => BIf_intro (fun _ => hw) fun g2 => ?_
  have g1 := of_decide_eq_false g1
  have g2 := of_decide_eq_false g2
  refine F8_call (F8_spec hX rfl (by omega) hx fun q5 d5 w1 o1 hq5 f1 => back_slice ?_)
  refine F8_call (F8_spec (hY.fr0 f1) rfl (by omega) hy fun q6 d6 w2 o2 hq6 f2 => back_slice ?_)
  have f02 := f1.trans f2 fun _ h => h.elim
  have o12 := o1.fr f2 fun _ _ h => h
  obtain ⟨i32, q1, q2, q3, q4⟩ := inf32
  refine build_intro (z := z32) und33 q1 q2 (by omega) (by omega) (fillS1 ⟨2, y, q6, d6⟩ i32 q3) fun w3 f3 b3 z3 => ?_
  have hst3 := steps_of (l := [⟨2, y, q6, d6⟩]) b3 fun e he => by
    simp only [List.mem_singleton] at he
    subst he
    exact ⟨(o2.fr f3 fun _ _ h => h).ints, fun b hb => by have := o2.lt hb; omega⟩
  have opA : opsOk [(2, y)] := fun q hq => by simp only [List.mem_singleton] at hq; subst hq; exact ⟨.inr (.inl rfl), by simp only; omega⟩
  refine F9_call (F9_spec (xs := x) (st := [(2, y)]) (S := remAll (addAll [] x) y) (q := (2, y)) (o12.fr f3 fun _ _ h => h).ints rfl (by omega) hst3 rfl (by simp) (by simp) opA rfl rfl fun ra w4 baseA okA hbA f4 => back_said ?_)
  refine new_intro fun n13 w5 e5 b5 f5 z5 => ?_
  refine store_intro (i := 0) b5 (by simp) rfl fun w6 b6 f6 _ => ?_
  refine store_intro (i := 1) b6 (by simp) rfl fun w7 b7 f7 _ => ?_
  refine store_intro (i := 2) b7 (by simp) rfl fun w8 b8 f8 _ => ?_
  refine store_intro (i := 3) b8 (by simp) rfl fun w9 b9 f9 _ => ?_
  have f49 : Fr (fun _ => False) w4 w9 := (((f5.trans f6 fun b e => .inr (by have : b = n13 := e; omega)).trans f7 fun b e => .inr (by have : b = n13 := e; omega)).trans f8 fun b e => .inr (by have : b = n13 := e; omega)).trans f9 fun b e => .inr (by have : b = n13 := e; omega)
  have okA9 := okA.fr0 f49
  have f29 : Fr (fun _ => False) w2 w9 := (f3.trans f4 fun _ h => h.elim).trans f49 fun _ h => h.elim
  have o19 := o12.fr f29 fun _ _ h => h
  have o29 := o2.fr f29 fun _ _ h => h
  refine build_intro (z := z32) und33 q1 q2 (by omega) (by omega) (fillS3 ⟨1, x, q5, d5⟩ ⟨2, y, q6, d6⟩ ⟨2, y, q6, d6⟩ i32 q3) fun wa fa ba za => ?_
  have hsta := steps_of (l := [⟨1, x, q5, d5⟩, ⟨2, y, q6, d6⟩, ⟨2, y, q6, d6⟩]) ba fun e he => by
    simp only [List.mem_cons, List.not_mem_nil, or_false] at he
    rcases he with rfl | rfl | rfl
    · exact ⟨(o19.fr fa fun _ _ h => h).ints, fun b hb => by have := o19.lt hb; omega⟩
    · exact ⟨(o29.fr fa fun _ _ h => h).ints, fun b hb => by have := o29.lt hb; omega⟩
    · exact ⟨(o29.fr fa fun _ _ h => h).ints, fun b hb => by have := o29.lt hb; omega⟩
  have opB : opsOk [(1, x), (2, y), (2, y)] := fun q hq => by
    simp only [List.mem_cons, List.not_mem_nil, or_false] at hq
    rcases hq with rfl | rfl | rfl
    · exact ⟨.inl rfl, by simp only; omega⟩
    · exact ⟨.inr (.inl rfl), by simp only; omega⟩
    · exact ⟨.inr (.inl rfl), by simp only; omega⟩
  refine F9_call (F9_spec (xs := x) (st := [(1, x), (2, y), (2, y)]) (S := remAll (remAll (addAll (addAll [] x) x) y) y) (q := (2, y)) (o19.fr fa fun _ _ h => h).ints rfl (by omega) hsta rfl (by simp) (by simp) opB rfl rfl fun rb wb baseB okB hbB fb => back_said ?_)
  rw [once] at okB
  refine new_intro fun n20 wc ec bc fc zc => ?_
  refine store_intro (i := 0) bc (by simp) rfl fun wd bd fd _ => ?_
  refine store_intro (i := 1) bd (by simp) rfl fun we be fe _ => ?_
  refine store_intro (i := 2) be (by simp) rfl fun wf bf ff _ => ?_
  refine store_intro (i := 3) bf (by simp) rfl fun wg bg fg _ => ?_
  refine drw_intro fun wh fh zh => ?_
  have fbh : Fr (fun _ => False) wb wh := ((((fc.trans fd fun b e => .inr (by have : b = n20 := e; omega)).trans fe fun b e => .inr (by have : b = n20 := e; omega)).trans ff fun b e => .inr (by have : b = n20 := e; omega)).trans fg fun b e => .inr (by have : b = n20 := e; omega)).trans fh fun _ h => h.elim
  have f9h : Fr (fun _ => False) w9 wh := (fa.trans fb fun _ h => h.elim).trans fbh fun _ h => h.elim
  have okAh := okA9.fr0 f9h
  have okBh := okB.fr0 fbh
  have b13 := b9.fr f9h id
  have b20 := bg.fr fh id
  simp only [BIf_true]
  refine load_int (i := 0) b13 rfl (load_int (i := 0) b20 rfl ?_)
  obtain ⟨va, hpa, hla, oa⟩ := okAh.flat
  obtain ⟨vb, hpb, hlb, ob⟩ := okBh.flat
  rw [okAh.n, okBh.n]
  rw [show (((((remAll (addAll [] x) y).length : Nat) : Int)) == (((remAll (addAll [] x) y).length : Nat) : Int)) = true by simp]
  simp only [BIf_true]
  refine load_slice (i := 1) b13 rfl (load_slice (i := 1) b20 rfl ?_)
  have hlS : (remAll (addAll [] x) y).length ≤ 20 := by
    have h1 := remAll_len y (addAll [] x)
    have h2 := addAll_len x []
    simp only [List.length_nil] at h2; omega
  have hva : va.length ≤ 20 := by rw [hpa.length_eq]; exact hlS
  have hvb : vb.length ≤ 20 := by rw [hpb.length_eq]; exact hlS
  have k13 : ∀ {w'}, Fr (fun _ => False) wh w' → w'.cell? ⟨n13, 0, none⟩ = some (.int .i64 ra.n) ∧ w'.cell? ⟨n13, 1, none⟩ = some (.slice ra.fp ra.fl ra.fc) := fun f => ⟨by rw [(b13.fr f id).cell]; rfl, by rw [(b13.fr f id).cell]; rfl⟩
  have k20 : ∀ {w'}, Fr (fun _ => False) wh w' → w'.cell? ⟨n20, 0, none⟩ = some (.int .i64 rb.n) ∧ w'.cell? ⟨n20, 1, none⟩ = some (.slice rb.fp rb.fl rb.fc) := fun f => ⟨by rw [(b20.fr f id).cell]; rfl, by rw [(b20.fr f id).cell]; rfl⟩
  rw [okAh.n] at k13
  rw [okBh.n] at k20
  refine F11_call (F11_gen oa (by omega) fun qa ca wi oi fi => back_slice ?_)
  refine ⟨(k20 fi).2, (k20 fi).1, (k13 fi).1, ?_⟩
  refine F11_call (F11_gen (ob.fr fi fun _ _ h => h) (by omega) fun qb cb wj oj fj => back_slice ?_)
  have fhj := fi.trans fj fun _ h => h.elim
  refine ⟨(k13 fhj).2, (k20 fhj).1, (k13 fhj).1, ?_⟩
  have es : srt va = srt vb := srt_eq (hpa.trans hpb.symm)
  refine F10_call (F10_spec (oi.fr fj fun _ _ h => h).ints oj.ints (by rw [srt_len]; exact hla) (by rw [srt_len]; exact hlb) (by rw [srt_len]; omega) fun wk fk => back_bool ?_)
  have fhk := fhj.trans fk fun _ h => h.elim
  refine ⟨(k20 fhk).2, (k13 fhk).2, (k20 fhk).1, (k13 fhk).1, ?_⟩
  rw [decide_eq_true es]
  exact hk wk ((f02.trans f29 fun _ h => h.elim).trans (f9h.trans fhk fun _ h => h.elim) fun _ h => h.elim)
end Go.Proofs.Ytokejbejoegnnaa.E
