/-
  The laws of merging, walked.
-/
import Derived.Test.YtpjjnckgjohaeaaMg5
import Derived.Test.YtpjjnckgjohaeaaIS3
import Derived.Test.YtpjjnckgjohaeaaShelfB
namespace Go.Proofs.Ytpjjnckgjohaeaa.E
open Go Go.Sort
set_option linter.unusedSimpArgs false
set_option linter.unusedVariables false
set_option maxRecDepth 100000
set_option maxHeartbeats 4000000

/-- dsInts. -/
theorem F30_spec {k : Value → W} {w : World} {p : Option Addr} {l c : Nat} {xs : List Int} (hX : Shorts w p xs) (hl : l = xs.length) (hb : xs.length < 100000) (hx : I16 xs)
    (hk : ∀ q c' w', Own w' 3 q l c' (ints xs) → Fr (fun _ => False) w w' → k (.slice q l c') w') : F30 k p l c w := by
  subst hl
  unfold F30
  refine F30_L1_rule (fun op ol oc sp sl sc x6 x7 w' => sp = p ∧ sl = xs.length ∧ x6 = (xs.length : Nat) ∧ ∃ i : Nat, x7 = i ∧ i ≤ xs.length ∧ ol = i ∧ Own w' 3 op i oc (ints (xs.take i)) ∧ (∀ b, bl op b → w.heap.size ≤ b) ∧ Fr (fun _ => False) w w')
    (fun _ _ _ _ _ _ x6 x7 _ => (x6 - x7).toNat) ?_ ⟨rfl, rfl, rfl, 0, rfl, Nat.zero_le _, rfl, Own.nil _ _, fun b hb => (by obtain ⟨a, h, _⟩ := hb; cases h), Fr.refl _ _⟩
  rintro op ol oc sp sl sc x6 x7 w2 ⟨hsp, hsl, rfl, i, rfl, hi, hol, o2, hb2, f2⟩
  obtain rfl := hsp.symm; obtain rfl := hsl.symm; obtain rfl := hol.symm
  unfold F30_L1
  by_cases hil : i < xs.length
  rotate_left
  · have : i = xs.length := by omega
    subst this
    rw [decide_eq_false (by omega)]
    rw [List.take_length] at o2
    simp only [BIf_false]
    exact hk _ _ _ o2 f2
  rw [decide_eq_true (by omega)]
  have hget : xs[i]? = some (xs[i]'(by omega)) := List.getElem?_eq_getElem _
  have hbx := hx _ (List.getElem_mem (show i < xs.length by omega))
  generalize xs[i]'(by omega) = x at hget hbx
  obtain ⟨a, rfl, hc⟩ := hX.fr0 f2 i x hget
  simp only [BIf_true, NN_mk, Int.toNat_natCast]
  refine ⟨by omega, LoadT_int.2 ⟨_, hc, ?_⟩⟩
  rw [wrap_i64 (by omega) (by omega), add_one (by omega)]
  obtain ⟨ii, hi1, hi2, hi3, hi4⟩ := inf3
  refine append1 (P := Try.prog) und36 hi1 hi2 hi3 rfl (by omega) o2 rfl rfl (by omega) fun p7 c7 w7 f7 o7 hp7 hs7 => ?_
  refine ⟨⟨(by trivial), (by trivial), (by trivial), i + 1, rfl, by omega, (by trivial), ?_, ?_, f2.trans f7 fun b hb => .inr (hb2 b hb)⟩, by omega⟩
  · rw [take_snoc hget, ints_append]; exact o7
  · intro b hb
    rcases hp7 b hb with h | h
    · exact hb2 b h
    · exact Nat.le_trans f2.size h
/-- Clone. -/
theorem F37_spec {k : Value → W} {w : World} {p : Option Addr} {l c : Nat} {xs : List Int} (hX : Ints w p xs) (hl : l = xs.length) (h0 : 0 < xs.length) (hb : xs.length < 100000)
    (hk : ∀ q c' w', Own w' 3 q l c' (ints xs) → (∀ b, bl q b → w.heap.size ≤ b) → Fr (fun _ => False) w w' → k (.slice q l c') w') : F37 k p l c w := by
  subst hl
  obtain ⟨a, rfl, _⟩ := hX 0 _ (List.getElem?_eq_getElem h0)
  unfold F37
  show RawT _ _ _ _ w
  obtain ⟨ii, hi1, hi2, hi3, hi4⟩ := inf3
  refine build_none und36 hi1 fun w1 f1 b1 z1 => ?_
  have o1 : OwnN w1 3 1 (some ⟨w.heap.size, 0, none⟩) 0 0 [] := OwnN.made b1 rfl (by decide)
  refine append_own (P := Try.prog) und36 hi1 hi2 hi3 (by decide) rfl (by omega) o1 (news := ints xs) (by simp) (reads_ints (hX.fr0 f1)) (ints_one xs) (by omega) fun p' c' w' f' o' hp' => ?_
  rw [Nat.zero_add, List.nil_append] at o'
  rw [Nat.zero_add]
  refine hk p' c' w' (Own.ofN o') (fun b hb => ?_) (f1.trans f' fun b hb => .inr ?_)
  · rcases hp' b hb with h | h
    · obtain ⟨x, hx, rfl⟩ := h; cases hx; exact Nat.le_refl _
    · have := f1.size; omega
  · obtain ⟨x, hx, rfl⟩ := hb; cases hx; exact Nat.le_refl _
theorem ren5 : Try.so5_ren.f 5 = 38 := rfl
/-- slices.Sort. -/
theorem F38_spec {w : World} {q c : Nat} {xs : List Int} {rest : List Value} {R : Ending → World → Prop} (hB : Blk w q 3 (ints xs ++ rest)) (hb : xs.length < 100000)
    (hk : ∀ w', Blk w' q 3 (ints (srt xs) ++ rest) → Fr (fun b => b = q) w w' → R (.returned (.tuple #[])) w') : Calls Try.prog 38 #[.slice (some ⟨q, 0, none⟩) xs.length c] w R := by
  have hH := holds_of (enc := Value.int .i64) (xs := xs) hB
  have hS := AnyM.slices_Sort_int Try.so5 q 0 c xs w hH hB.lt (by omega)
  rw [ren5] at hS
  refine hS.mono fun e w' ⟨he, n, os, hw⟩ => ?_
  subst he
  have := blk_sorted (os := os) (n := n) (enc := Value.int .i64) (ys := srt xs) hB (srt_len xs)
  unfold srt at this
  rw [← hw] at this
  exact hk _ this.1 this.2
/-- dxSorted. -/
theorem F29_spec {k : Value → W} {w : World} {p : Option Addr} {l c : Nat} {xs : List Int} (hX : Ints w p xs) (hl : l = xs.length) (h0 : 0 < xs.length) (hb : xs.length < 100000)
    (hk : ∀ q c' w', Own w' 3 q l c' (ints (srt xs)) → Fr (fun _ => False) w w' → k (.slice q l c') w') : F29 k p l c w := by
  subst hl
  unfold F29
  refine F37_call (F37_spec hX rfl h0 hb fun q c' w1 o1 hq f1 => back_slice ?_)
  obtain ⟨q, rest, rfl, hB, hc, hm⟩ := o1.get h0
  refine F38_spec hB hb fun w2 hB2 f2 => back0 ?_
  refine hk _ _ w2 ⟨by simp [srt_len], .inr ⟨q, rest, rfl, hB2, ?_, hm⟩⟩ (f1.trans f2 fun b e => .inr (hq b ⟨_, rfl, e.symm⟩))
  rw [← hc]; simp [srt_len]
theorem srt_i16 {xs : List Int} (h : I16 xs) : I16 (srt xs) := fun x hx => h x ((srt_perm xs).mem_iff.1 hx)
/-- dmItems, not shifted. -/
theorem F15_spec {k : Value → W} {w : World} {p : Option Addr} {l c : Nat} {xs : List Int} {tag : Int} (hX : Shorts w p xs) (hl : l = xs.length) (h0 : 0 < xs.length) (hb : xs.length < 100000) (hx : I16 xs) (ht : 0 ≤ tag ∧ tag ≤ 1000)
    (hk : ∀ es q c' w', es.map key = srt xs → OwnN w' 54 2 q l c' (flat es) → Fr (fun _ => False) w w' → k (.slice q l c') w') : F15 k p l c tag 0 w := by
  subst hl
  unfold F15
  refine F30_call (F30_spec hX rfl hb hx fun q1 c1 w1 o1 f1 => back_slice ?_)
  refine F29_call (F29_spec o1.ints rfl h0 hb fun q2 c2 w2 o2 f2 => back_slice ?_)
  have f02 := f1.trans f2 fun _ h => h.elim
  have hsl := srt_len xs
  have hsi := srt_i16 hx
  generalize hys : srt xs = ys at *
  obtain ⟨ii, hi1, hi2, hi3, hi4⟩ := inf54
  refine F15_L1_rule (fun tg by' op ol oc sp sl sc x6 x7 w' => tg = tag ∧ by' = 0 ∧ sp = q2 ∧ sl = xs.length ∧ x6 = (xs.length : Nat) ∧ ∃ (i : Nat) (es : List (Int × Int)), x7 = i ∧ i ≤ xs.length ∧ ol = i ∧ es.map key = ys.take i ∧ OwnN w' 54 2 op i oc (flat es) ∧ (∀ b, bl op b → w2.heap.size ≤ b) ∧ Fr (fun _ => False) w2 w')
    (fun _ _ _ _ _ _ _ _ x6 x7 _ => (x6 - x7).toNat) ?_ ⟨rfl, rfl, rfl, rfl, rfl, 0, [], rfl, Nat.zero_le _, rfl, rfl, OwnN.nil _ _ _, fun b hb => (by obtain ⟨a, h, _⟩ := hb; cases h), Fr.refl _ _⟩
  rintro tg by' op ol oc sp sl sc x6 x7 w3 ⟨htg, hby, hsp, hsl2, rfl, i, es, rfl, hi, hol, hes, o3, hb3, f3⟩
  obtain rfl := htg.symm; obtain rfl := hby.symm; obtain rfl := hsp.symm; obtain rfl := hsl2.symm; obtain rfl := hol.symm
  unfold F15_L1
  by_cases hil : i < xs.length
  rotate_left
  · have : i = xs.length := by omega
    subst this
    rw [decide_eq_false (by omega)]
    rw [← hsl, List.take_length] at hes
    simp only [BIf_false]
    exact hk es _ _ _ hes o3 (f02.trans f3 fun _ h => h.elim)
  rw [decide_eq_true (by omega)]
  have hget : ys[i]? = some (ys[i]'(by omega)) := List.getElem?_eq_getElem _
  have hbx := hsi _ (List.getElem_mem (show i < ys.length by omega))
  generalize ys[i]'(by omega) = x at hget hbx
  obtain ⟨a, rfl, hc⟩ := (o2.fr f3 fun _ _ h => h).ints i x hget
  simp only [BIf_true, NN_mk, Int.toNat_natCast]
  refine ⟨by omega, LoadT_int.2 ⟨_, hc, ?_⟩⟩
  rw [addI_i64 (a := x) (by omega) (by omega), addI_i64 (a := tag) (by omega) (by omega), Int.add_zero, add_one (by omega)]
  refine build_intro und34 hi1 hi2 (by omega) (by omega) (fill1 x (tag + (i : Nat)) ii hi3) fun w5 f5 b5 z5 => ?_
  have o5 := o3.fr f5 fun _ _ h => h
  refine append_own (P := Try.prog) und34 hi1 hi2 hi3 (by decide) rfl (by omega) o5 (news := flat [(x, tag + (i : Nat))]) (m := 1) (flat_length _) ?_ (flat_one _) (by omega) fun p8 c8 w8 f8 o8 hp8 => ?_
  · intro j u hj
    rw [add_mk, Nat.zero_add, b5.cell]; exact hj
  have f35 := f3.trans f5 fun _ h => h.elim
  refine ⟨⟨(by trivial), (by trivial), (by trivial), (by trivial), (by trivial), i + 1, es ++ [(x, tag + (i : Nat))], rfl, by omega, (by trivial), ?_, ?_, ?_, f35.trans f8 fun b hb => .inr (hb3 b hb)⟩, by omega⟩
  · rw [take_snoc hget, List.map_append, hes]; rfl
  · rw [flat_append]; exact o8
  · intro b hb
    rcases hp8 b hb with h | h
    · exact hb3 b h
    · exact Nat.le_trans f35.size h
/-- dmKeys. -/
theorem F16_spec {k : Value → W} {w : World} {p : Option Addr} {l c : Nat} {es : List (Int × Int)} (hE : Edges w p es) (hl : l = es.length) (hb : es.length < 1000)
    (hk : ∀ q c' w', Own w' 3 q l c' (ints (es.map key)) → Fr (fun _ => False) w w' → k (.slice q l c') w') : F16 k p l c w := by
  subst hl
  unfold F16
  obtain ⟨ii, hi1, hi2, hi3, hi4⟩ := inf3
  refine F16_L1_rule (fun op ol oc sp sl sc x5 x6 w' => sp = p ∧ sl = es.length ∧ x5 = (es.length : Nat) ∧ ∃ i : Nat, x6 = i ∧ i ≤ es.length ∧ ol = i ∧ Own w' 3 op i oc (ints ((es.take i).map key)) ∧ (∀ b, bl op b → w.heap.size ≤ b) ∧ Fr (fun _ => False) w w')
    (fun _ _ _ _ _ _ x5 x6 _ => (x5 - x6).toNat) ?_ ⟨rfl, rfl, rfl, 0, rfl, Nat.zero_le _, rfl, Own.nil _ _, fun b ⟨a, h, e⟩ => (by cases h), Fr.refl _ _⟩
  rintro op ol oc sp sl sc x5 x6 w2 ⟨hsp, hsl, rfl, i, rfl, hi, hol, o2, hb2, f2⟩
  obtain rfl := hsp.symm; obtain rfl := hsl.symm; obtain rfl := hol.symm
  unfold F16_L1
  by_cases hil : i < es.length
  rotate_left
  · have : i = es.length := by omega
    subst this
    rw [decide_eq_false (by omega)]
    rw [List.take_length] at o2
    simp only [BIf_false]
    exact hk _ _ w2 o2 f2
  rw [decide_eq_true (by omega)]
  have hget : es[i]? = some (es[i]'(by omega)) := List.getElem?_eq_getElem _
  generalize es[i]'(by omega) = q at hget
  obtain ⟨a, rfl, c1, c2⟩ := hE.fr0 f2 i q hget
  simp only [BIf_true, NN_mk, Int.toNat_natCast]
  refine ⟨by omega, LoadT_int.2 ⟨_, c1, LoadT_int.2 ⟨_, c2, ?_⟩⟩⟩
  refine new_intro fun n w3 hn b3 f3 z3 => ?_
  refine store_intro b3 (by simp) rfl fun w4 b4 f4 z4 => ?_
  refine store_intro b4 (by simp) rfl fun w5 b5 f5 z5 => ?_
  have f25 : Fr (fun _ => False) w2 w5 := (f3.trans f4 fun x e => .inr (by have : x = n := e; omega)).trans f5 fun x e => .inr (by have : x = n := e; omega)
  refine load_int b5 rfl ?_
  have o5 := o2.fr f25 fun _ _ h => h
  have f05 := f2.trans f25 fun _ h => h.elim
  refine append1 (P := Try.prog) und36 hi1 hi2 hi3 rfl (by omega) o5 rfl rfl (by omega) fun p7 c7 w7 f7 o7 hp7 hs7 => ?_
  rw [add_one (by omega)]
  refine ⟨⟨(by trivial), (by trivial), (by trivial), i + 1, rfl, by omega, (by trivial), ?_, ?_, f05.trans f7 fun b hb => .inr (hb2 b hb)⟩, by omega⟩
  · rw [take_snoc hget, List.map_append, ints_append]; exact o7
  · intro b hb
    rcases hp7 b hb with h | h
    · exact hb2 b h
    · exact Nat.le_trans f05.size h
/-- Equal. -/
theorem F19_spec {k : Value → W} {w : World} {p q : Option Addr} {l c m d : Nat} {xs ys : List Int} (hX : Ints w p xs) (hY : Ints w q ys) (hl : l = xs.length) (hm : m = ys.length) (hb : xs.length < 100000)
    (hk : ∀ w', Fr (fun _ => False) w w' → k (.bool (decide (xs = ys))) w') : F19 k p l c q m d w := by
  subst hl; subst hm
  unfold F19
  by_cases hne : xs.length = ys.length
  rotate_left
  · rw [show (((xs.length : Nat) : Int) != ((ys.length : Nat) : Int)) = true by simp; omega]
    simp only [BIf_true]
    rw [show false = decide (xs = ys) from (decide_eq_false fun e => hne (by rw [e])).symm]
    exact hk w (Fr.refl _ _)
  rw [show (((xs.length : Nat) : Int) != ((ys.length : Nat) : Int)) = false by simp; omega]
  simp only [BIf_false]
  refine F19_L1_rule (fun sp sl sc tp tl tc x5 x6 w' => Fr (fun _ => False) w w' ∧ sp = p ∧ sl = xs.length ∧ tp = q ∧ tl = ys.length ∧ x5 = (xs.length : Nat) ∧ ∃ i : Nat, x6 = i ∧ i ≤ xs.length ∧ xs.take i = ys.take i) (fun _ _ _ _ _ _ x5 x6 _ => (x5 - x6).toNat) ?_ ⟨Fr.refl _ _, rfl, rfl, rfl, rfl, rfl, 0, rfl, Nat.zero_le _, by simp⟩
  rintro sp sl sc tp tl tc x5 x6 w' ⟨f, hsp, hsl, htp, htl, rfl, i, rfl, hi, he⟩
  obtain rfl := hsp.symm; obtain rfl := hsl.symm; obtain rfl := htp.symm; obtain rfl := htl.symm
  unfold F19_L1
  by_cases hil : i < xs.length
  rotate_left
  · have : i = xs.length := by omega
    subst this
    rw [decide_eq_false (by omega)]
    rw [List.take_length, hne, List.take_length] at he
    simp only [BIf_false]
    rw [show true = decide (xs = ys) from (decide_eq_true he).symm]
    exact hk w' f
  rw [decide_eq_true (by omega)]
  have hgx : xs[i]? = some (xs[i]'(by omega)) := List.getElem?_eq_getElem _
  have hgy : ys[i]? = some (ys[i]'(by omega)) := List.getElem?_eq_getElem _
  generalize xs[i]'(by omega) = x at hgx
  generalize ys[i]'(by omega) = y at hgy
  simp only [BIf_true]
  refine drw_intro fun w2 f2 z2 => ?_
  have f02 := f.trans f2 fun _ h => h.elim
  obtain ⟨a, rfl, hc⟩ := hX.fr0 f02 i x hgx
  obtain ⟨b, rfl, hd⟩ := hY.fr0 f02 i y hgy
  simp only [NN_mk, Int.toNat_natCast]
  refine ⟨by omega, LoadT_int.2 ⟨_, hc, ⟨by omega, LoadT_int.2 ⟨_, hd, ?_⟩⟩⟩⟩
  by_cases hxy : x = y
  · subst hxy
    rw [show (x != x) = false by simp]
    simp only [BIf_false]
    have e : addI .i64 (i : Nat) 1 = ((i + 1 : Nat) : Int) := by rw [addI_i64 (by omega) (by omega)]; simp
    rw [e]
    refine ⟨⟨f02, (by trivial), (by trivial), (by trivial), (by trivial), (by trivial), i + 1, rfl, by omega, ?_⟩, by omega⟩
    rw [take_snoc hgx, take_snoc hgy, he]
  · rw [show (x != y) = true by simpa using hxy]
    simp only [BIf_true]
    rw [show false = decide (xs = ys) from (decide_eq_false fun e => hxy (by rw [e, hgy] at hgx; exact (Option.some.inj hgx).symm)).symm]
    exact hk w2 f02
theorem ent21 : ∀ args w, (callFunc 21 args).run Try.prog w = .ok (.enter 21 args) w := enters_of Try.func21 (by kernel_rfl) rfl
/-- EqualFunc. -/
theorem F20_spec {k : Value → W} {w : World} {p q : Option Addr} {l c m d : Nat} {xs : List Int} (hX : Ints w p xs) (hY : Ints w q xs) (hl : l = xs.length) (hm : m = xs.length) (hb : xs.length < 100000)
    (hk : k (.bool true) w) : F20 k p l c q m d (.func (.func 21) #[] #[]) w := by
  subst hl; subst hm
  unfold F20
  rw [show (((xs.length : Nat) : Int) != ((xs.length : Nat) : Int)) = false by simp]
  simp only [BIf_false]
  refine F20_L1_rule (fun tp tl tc f sp sl sc x5 x6 w' => w' = w ∧ tp = q ∧ tl = xs.length ∧ f = .func (.func 21) #[] #[] ∧ sp = p ∧ sl = xs.length ∧ x5 = (xs.length : Nat) ∧ ∃ i : Nat, x6 = i ∧ i ≤ xs.length) (fun _ _ _ _ _ _ _ x5 x6 _ => (x5 - x6).toNat) ?_ ⟨rfl, rfl, rfl, rfl, rfl, rfl, rfl, 0, rfl, Nat.zero_le _⟩
  rintro tp tl tc f sp sl sc x5 x6 w' ⟨hw, htp, htl, hf, hsp, hsl, rfl, i, rfl, hi⟩
  obtain rfl := hw.symm; obtain rfl := htp.symm; obtain rfl := htl.symm; obtain rfl := hf.symm; obtain rfl := hsp.symm; obtain rfl := hsl.symm
  unfold F20_L1
  by_cases hil : i < xs.length
  rotate_left
  · have : i = xs.length := by omega
    subst this
    rw [decide_eq_false (by omega)]
    exact hk
  rw [decide_eq_true (by omega)]
  have hget : xs[i]? = some (xs[i]'(by omega)) := List.getElem?_eq_getElem _
  generalize xs[i]'(by omega) = x at hget
  obtain ⟨a, rfl, c1⟩ := hX i x hget
  obtain ⟨b, rfl, c2⟩ := hY i x hget
  simp only [BIf_true, NN_mk, Int.toNat_natCast]
  refine ⟨by omega, LoadT_int.2 ⟨_, c1, ⟨by omega, LoadT_int.2 ⟨_, c2, ?_⟩⟩⟩⟩
  refine NextT_enter (callV_enter ent21) ?_
  refine F21_calls ?_
  unfold F21
  refine back_bool ?_
  rw [show (x == x) = true by simp]
  simp only [Bool.not_true, BIf_false]
  rw [add_one (by omega)]
  exact ⟨⟨(by trivial), (by trivial), (by trivial), (by trivial), (by trivial), (by trivial), (by trivial), i + 1, rfl, by omega⟩, by omega⟩
theorem fillI2 (x y : Int) : ∀ i : TypeInfo, i.size = 1 → Instr.fill (fun j => some (j * i.size, i.size)) ((Array.range (2 * i.size)).map ((Value.int .i64 0).cells[· % (Value.int .i64 0).cells.size]!)) [(0, .int .i64 x), (1, .int .i64 y)] = some (ints [x, y]).toArray := by
  intro i h
  rw [h]
  kernel_rfl
theorem ints_of_blk {w : World} {e : TypeId} {q : Nat} {xs : List Int} (h : Blk w q e (ints xs)) : Ints w (some ⟨q, 0, none⟩) xs := fun i x hx => ⟨_, rfl, by rw [add_mk, Nat.zero_add, h.cell, ints_get, hx]; rfl⟩
theorem up_keys {zs : List (Int × Int)} (h : Up zs) : (zs.map key).Pairwise (· ≤ ·) := List.pairwise_map.2 h
theorem keys_srt {zs : List (Int × Int)} {xs : List Int} (h : Up zs) (hp : (zs.map key).Perm xs) : zs.map key = srt xs := asc_eq (up_keys h) (srt_asc xs) (hp.trans (srt_perm xs).symm)
/-- The example. -/
theorem F18_spec {k : Value → W} {w : World} (hk : ∀ w', Fr (fun _ => False) w w' → k (.bool true) w') : F18 k w := by
  obtain ⟨i54, g1, g2, g3, g4⟩ := inf54
  obtain ⟨i3, h1, h2, h3, h4⟩ := inf3
  unfold F18
  refine build_intro und34 g1 g2 (by omega) (by omega) (fill1 4 0 i54 g3) fun w1 f1 b1 z1 => ?_
  have e1 : Edges w1 (some ⟨w.heap.size, 0, none⟩) [(4, 0)] := (OwnN.made (n := 1) b1 rfl (by decide)).pairs
  refine build_intro und34 g1 g2 (by omega) (by omega) (fill1 2 1 i54 g3) fun w2 f2 b2 z2 => ?_
  have e2 : Edges w2 (some ⟨w1.heap.size, 0, none⟩) [(2, 1)] := (OwnN.made (n := 1) b2 rfl (by decide)).pairs
  refine F17_call (F17_spec (e1.fr0 f2) e2 rfl rfl (by decide) (by decide) (by decide) (List.pairwise_singleton ..) (List.pairwise_singleton ..) fun zs p c w3 o3 hp hup f3 => back_slice ?_)
  have hzl : zs.length = 2 := by rw [hp.length_eq]; rfl
  refine F16_call (F16_spec o3.pairs rfl (by omega) fun q c' w4 o4 f4 => back_slice ?_)
  refine build_intro und36 h1 h2 (by omega) (by omega) (fillI2 2 4 i3 h3) fun w5 f5 b5 z5 => ?_
  have hkz : zs.map key = [2, 4] := by
    refine asc_eq (up_keys hup) (by decide) ?_
    have := hp.map key
    exact this.trans (List.Perm.swap 2 4 [])
  rw [hkz] at o4
  refine F19_call (F19_spec (o4.fr f5 fun _ _ h => h).ints (ints_of_blk b5) hzl rfl (by decide) fun w6 f6 => back_bool ?_)
  rw [decide_eq_true rfl]
  exact hk w6 (((((f1.trans f2 fun _ h => h.elim).trans f3 fun _ h => h.elim).trans f4 fun _ h => h.elim).trans f5 fun _ h => h.elim).trans f6 fun _ h => h.elim)
theorem up_of_keys {es : List (Int × Int)} {xs : List Int} (h : es.map key = srt xs) : Up es := List.pairwise_map.1 (h ▸ srt_asc xs)
theorem len_of_keys {es : List (Int × Int)} {xs : List Int} (h : es.map key = srt xs) : es.length = xs.length := by have := congrArg List.length h; rw [List.length_map, srt_len] at this; exact this
theorem perm_of_keys {es : List (Int × Int)} {xs : List Int} (h : es.map key = srt xs) : (es.map key).Perm xs := h ▸ srt_perm xs

/-- FnMGThree. -/
theorem F5_spec {k : Value → W} {w : World} {p1 p2 p3 : Option Addr} {l1 c1 l2 c2 l3 c3 : Nat} {x1 x2 x3 : List Int} (hX1 : Shorts w p1 x1) (hl1 : l1 = x1.length) (hx1 : I16 x1) (hX2 : Shorts w p2 x2) (hl2 : l2 = x2.length) (hx2 : I16 x2) (hX3 : Shorts w p3 x3) (hl3 : l3 = x3.length) (hx3 : I16 x3)
    (hk : ∀ w', Fr (fun _ => False) w w' → k (.bool true) w') : F5 k p1 l1 c1 p2 l2 c2 p3 l3 c3 w := by
  have hw := hk w (Fr.refl _ _)
  unfold F5
  refine BIf_intro (fun _ => hw) fun _ => BIf_intro (fun _ => hw) fun _ => BIf_intro (fun _ => hw) fun _ => ?_
  refine F7_call (F7_spec (back_bool hw) fun h1 _ => back_bool ?_)
  simp only [Bool.not_true, BIf_false]
  refine F7_call (F7_spec (back_bool hw) fun h2 _ => back_bool ?_)
  simp only [Bool.not_true, BIf_false]
  refine F7_call (F7_spec (back_bool hw) fun h3 _ => back_bool ?_)
  simp only [Bool.not_true, BIf_false]
  refine BIf_intro (fun _ => hw) fun g1 => BIf_intro (fun _ => hw) fun g2 => BIf_intro (fun _ => hw) fun g3 => ?_
  have g1 := of_decide_eq_false g1
  have g2 := of_decide_eq_false g2
  have g3 := of_decide_eq_false g3
  refine F15_call (F15_spec hX1 hl1 (by omega) (by omega) hx1 (by omega) fun a1 q1 d1 w1 ha1 o1 f1 => back_slice ?_)
  refine F15_call (F15_spec (hX2.fr0 f1) hl2 (by omega) (by omega) hx2 (by omega) fun a2 q2 d2 w2 ha2 o2 f2 => back_slice ?_)
  have f02 := f1.trans f2 fun _ h => h.elim
  refine F15_call (F15_spec (hX3.fr0 f02) hl3 (by omega) (by omega) hx3 (by omega) fun a3 q3 d3 w3 ha3 o3 f3 => back_slice ?_)
  have f03 := f02.trans f3 fun _ h => h.elim
  have E1 := (o1.pairs.fr0 f2).fr0 f3
  have E2 := o2.pairs.fr0 f3
  have E3 := o3.pairs
  have n1 := len_of_keys ha1
  have n2 := len_of_keys ha2
  have n3 := len_of_keys ha3
  have u1 := up_of_keys ha1
  have u2 := up_of_keys ha2
  have u3 := up_of_keys ha3
  have m1 := perm_of_keys ha1
  have m2 := perm_of_keys ha2
  have m3 := perm_of_keys ha3
  -- (x, y), z
  refine F17_call (F17_spec E1 E2 (by omega) (by omega) (by omega) (by omega) (by omega) u1 u2 fun z4 p4 d4 w4 o4 hp4 up4 f4 => back_slice ?_)
  have n4 := hp4.length_eq
  rw [List.length_append] at n4
  refine F17_call (F17_spec o4.pairs (E3.fr0 f4) rfl (by omega) (by omega) (by omega) (by omega) up4 u3 fun z5 p5 d5 w5 o5 hp5 up5 f5 => back_slice ?_)
  have n5 := hp5.length_eq
  rw [List.length_append] at n5
  refine F16_call (F16_spec o5.pairs rfl (by omega) fun p6 d6 w6 o6 f6 => back_slice ?_)
  have f36 := (f4.trans f5 fun _ h => h.elim).trans f6 fun _ h => h.elim
  have K5 : z5.map key = srt (x1 ++ x2 ++ x3) := keys_srt up5 (by
    refine (hp5.map key).trans ?_
    rw [List.map_append]
    refine List.Perm.append ((hp4.map key).trans ?_) m3
    rw [List.map_append]; exact m1.append m2)
  rw [K5] at o6
  -- x, (y, z)
  refine F17_call (F17_spec (E2.fr0 f36) (E3.fr0 f36) (by omega) (by omega) (by omega) (by omega) (by omega) u2 u3 fun z7 p7 d7 w7 o7 hp7 up7 f7 => back_slice ?_)
  have n7 := hp7.length_eq
  rw [List.length_append] at n7
  have f37 := f36.trans f7 fun _ h => h.elim
  refine F17_call (F17_spec (E1.fr0 f37) o7.pairs (by omega) rfl (by omega) (by omega) (by omega) u1 up7 fun z8 p8 d8 w8 o8 hp8 up8 f8 => back_slice ?_)
  have n8 := hp8.length_eq
  rw [List.length_append] at n8
  refine F16_call (F16_spec o8.pairs rfl (by omega) fun p9 d9 w9 o9 f9 => back_slice ?_)
  have K8 : z8.map key = srt (x1 ++ x2 ++ x3) := keys_srt up8 (by
    refine (hp8.map key).trans ?_
    rw [List.map_append, List.append_assoc]
    refine List.Perm.append m1 ((hp7.map key).trans ?_)
    rw [List.map_append]; exact m2.append m3)
  rw [K8] at o9
  have f39 := (f37.trans f8 fun _ h => h.elim).trans f9 fun _ h => h.elim
  -- (z, x), y
  refine F17_call (F17_spec (E3.fr0 f39) (E1.fr0 f39) (by omega) (by omega) (by omega) (by omega) (by omega) u3 u1 fun za pa da wa oa hpa upa fa => back_slice ?_)
  have na := hpa.length_eq
  rw [List.length_append] at na
  have f3a := f39.trans fa fun _ h => h.elim
  refine F17_call (F17_spec oa.pairs (E2.fr0 f3a) rfl (by omega) (by omega) (by omega) (by omega) upa u2 fun zb pb db wb ob hpb upb fb => back_slice ?_)
  have nb := hpb.length_eq
  rw [List.length_append] at nb
  refine F16_call (F16_spec ob.pairs rfl (by omega) fun pc dc wc oc fc => back_slice ?_)
  have KB : zb.map key = srt (x1 ++ x2 ++ x3) := keys_srt upb (by
    refine (hpb.map key).trans ?_
    rw [List.map_append]
    have q1 : (za.map key).Perm (x3 ++ x1) := by
      have := hpa.map key
      rw [List.map_append] at this
      exact this.trans (m3.append m1)
    refine (q1.append m2).trans ?_
    rw [List.append_assoc]
    exact List.perm_append_comm)
  rw [KB] at oc
  have f9c := (fa.trans fb fun _ h => h.elim).trans fc fun _ h => h.elim
  refine F18_call (F18_spec fun wd fd => back_bool ?_)
  simp only [BIf_true]
  have f6c : Fr (fun _ => False) w6 wc := ((f7.trans f8 fun _ h => h.elim).trans f9 fun _ h => h.elim).trans f9c fun _ h => h.elim
  have f6d := f6c.trans fd fun _ h => h.elim
  have f9d := f9c.trans fd fun _ h => h.elim
  have hsl := srt_len (x1 ++ x2 ++ x3)
  rw [List.length_append, List.length_append] at hsl
  have l5 : z5.length = (srt (x1 ++ x2 ++ x3)).length := by omega
  refine F19_call (F19_spec (o6.fr f6d fun _ _ h => h).ints (o9.fr f9d fun _ _ h => h).ints l5 (by omega) (by omega) fun we fe => back_bool ?_)
  rw [decide_eq_true rfl]
  simp only [BIf_true]
  refine F19_call (F19_spec (o6.fr (f6d.trans fe fun _ h => h.elim) fun _ _ h => h).ints (oc.fr (fd.trans fe fun _ h => h.elim) fun _ _ h => h).ints l5 (by omega) (by omega) fun wf ff => back_bool ?_)
  rw [decide_eq_true rfl]
  simp only [BIf_true]
  rw [addI_i64 (a := (l1 : Int)) (by omega) (by omega), addI_i64 (by omega) (by omega)]
  rw [show (((z5.length : Nat) : Int) == (l1 : Int) + (l2 : Int) + (l3 : Int)) = true by simp; omega]
  refine bind_intro ?_
  exact hk wf ((((((f03.trans f36 fun _ h => h.elim).trans f6c fun _ h => h.elim).trans fd fun _ h => h.elim).trans fe fun _ h => h.elim).trans ff fun _ h => h.elim))
theorem F9_new {k : Value → W} {w : World} {p : Option Addr} {l c : Nat} {xs : List Int} {d : Int} (hX : Shorts w p xs) (hl : l = xs.length) (hb : xs.length < 100000) (hx : I16 xs) (hd : -32768 ≤ d ∧ d < 32768)
    (hk : ∀ q c' w', Own w' 2 q l c' (ints (xs.map (· + d))) → (∀ b, bl q b → w.heap.size ≤ b) → Fr (fun _ => False) w w' → k (.slice q l c') w') : F9 k p l c d w := by
  subst hl
  unfold F9
  refine F9_L1_rule (fun y op ol oc sp sl sc x6 x7 w' => y = d ∧ sp = p ∧ sl = xs.length ∧ x6 = (xs.length : Nat) ∧ ∃ i : Nat, x7 = i ∧ i ≤ xs.length ∧ ol = i ∧ Own w' 2 op i oc (ints ((xs.take i).map (· + d))) ∧ (∀ b, bl op b → w.heap.size ≤ b) ∧ Fr (fun _ => False) w w')
    (fun _ _ _ _ _ _ _ x6 x7 _ => (x6 - x7).toNat) ?_ ⟨rfl, rfl, rfl, rfl, 0, rfl, Nat.zero_le _, rfl, Own.nil _ _, fun b hb => (by obtain ⟨a, h, _⟩ := hb; cases h), Fr.refl _ _⟩
  rintro y op ol oc sp sl sc x6 x7 w2 ⟨hy, hsp, hsl, rfl, i, rfl, hi, hol, o2, hb2, f2⟩
  obtain rfl := hy.symm; obtain rfl := hsp.symm; obtain rfl := hsl.symm; obtain rfl := hol.symm
  unfold F9_L1
  by_cases hil : i < xs.length
  rotate_left
  · have : i = xs.length := by omega
    subst this
    rw [decide_eq_false (by omega)]
    rw [List.take_length] at o2
    simp only [BIf_false]
    exact hk _ _ _ o2 hb2 f2
  rw [decide_eq_true (by omega)]
  have hget : xs[i]? = some (xs[i]'(by omega)) := List.getElem?_eq_getElem _
  have hbx := hx _ (List.getElem_mem (show i < xs.length by omega))
  generalize xs[i]'(by omega) = x at hget hbx
  obtain ⟨a, rfl, hc⟩ := hX.fr0 f2 i x hget
  simp only [BIf_true, NN_mk, Int.toNat_natCast]
  refine ⟨by omega, LoadT_int.2 ⟨_, hc, ?_⟩⟩
  rw [wrap_i64 (by omega) (by omega), addI_i64 (by omega) (by omega), add_one (by omega)]
  obtain ⟨ii, hi1, hi2, hi3, hi4⟩ := inf2
  refine append1 (P := Try.prog) und25 hi1 hi2 hi3 rfl (by omega) o2 rfl rfl (by omega) fun p7 c7 w7 f7 o7 hp7 hs7 => ?_
  refine ⟨⟨(by trivial), (by trivial), (by trivial), (by trivial), i + 1, rfl, by omega, (by trivial), ?_, ?_, f2.trans f7 fun b hb => .inr (hb2 b hb)⟩, by omega⟩
  · rw [take_snoc hget, List.map_append, ints_append]; exact o7
  · intro b hb
    rcases hp7 b hb with h | h
    · exact hb2 b h
    · exact Nat.le_trans f2.size h

/-- FnXMerged. -/
theorem F6_spec {k : Value → W} {w : World} {p1 p2 : Option Addr} {l1 c1 l2 c2 : Nat} {x1 x2 : List Int} (hX1 : Shorts w p1 x1) (hl1 : l1 = x1.length) (hx1 : I16 x1) (hX2 : Shorts w p2 x2) (hl2 : l2 = x2.length) (hx2 : I16 x2)
    (hk : ∀ w', Fr (fun _ => False) w w' → k (.bool true) w') : F6 k p1 l1 c1 p2 l2 c2 w := by
  have hw := hk w (Fr.refl _ _)
  unfold F6
  refine BIf_intro (fun _ => hw) fun _ => BIf_intro (fun _ => hw) fun _ => ?_
  refine F7_call (F7_spec (back_bool hw) fun h1 g1 => back_bool ?_)
  simp only [Bool.not_true, BIf_false]
  refine F7_call (F7_spec (back_bool hw) fun h2 g2 => back_bool ?_)
  simp only [Bool.not_true, BIf_false]
  have hm : ∀ ys : List Int, ys.map (· + 0) = ys := fun ys => by simp
  refine F9_call (F9_new hX1 hl1 (by omega) hx1 (by omega) fun q1 d1 w1 o1 hq1 f1 => back_slice ?_)
  rw [hm] at o1
  refine F9_call (F9_spec (hX2.fr0 f1) hl2 (by omega) hx2 (by omega) fun q2 d2 w2 o2 f2 => back_slice ?_)
  rw [hm] at o2
  have f02 := f1.trans f2 fun _ h => h.elim
  obtain ⟨i2, i21, i22, i23, i24⟩ := inf2
  obtain ⟨b2, r2, rfl, _, _, _⟩ := o2.get (by omega)
  have o12 := o1.fr f2 fun _ _ h => h
  refine append_own (P := Try.prog) und25 i21 i22 i23 (by decide) rfl (by omega) o12.toN (news := ints x2) (by simp; omega) (reads_ints o2.ints) (ints_one _) (by omega) fun q3 d3 w3 f3 o3 hp3 => ?_
  have o3 := Own.ofN o3
  rw [← ints_append] at o3
  have f03 := f02.trans f3 fun b hb => .inr (hq1 b hb)
  have hl3 : l1 + l2 = (x1 ++ x2).length := by rw [List.length_append]; omega
  refine F8_call (F8_spec o3.ints hl3 (by omega) (by omega) fun q4 d4 w4 o4 f4 => back_slice ?_)
  have f04 := f03.trans f4 fun _ h => h.elim
  refine F15_call (F15_spec (hX1.fr0 f04) hl1 (by omega) (by omega) hx1 (by omega) fun a1 q5 d5 w5 ha1 o5 f5 => back_slice ?_)
  have f05 := f04.trans f5 fun _ h => h.elim
  refine F15_call (F15_spec (hX2.fr0 f05) hl2 (by omega) (by omega) hx2 (by omega) fun a2 q6 d6 w6 ha2 o6 f6 => back_slice ?_)
  have n1 := len_of_keys ha1
  have n2 := len_of_keys ha2
  refine F17_call (F17_spec (o5.pairs.fr0 f6) o6.pairs (by omega) (by omega) (by omega) (by omega) (by omega) (up_of_keys ha1) (up_of_keys ha2) fun z7 q7 d7 w7 o7 hp7 up7 f7 => back_slice ?_)
  have n7 := hp7.length_eq
  rw [List.length_append] at n7
  refine F16_call (F16_spec o7.pairs rfl (by omega) fun q8 d8 w8 o8 f8 => back_slice ?_)
  have K7 : z7.map key = srt (x1 ++ x2) := keys_srt up7 (by
    refine (hp7.map key).trans ?_
    rw [List.map_append]; exact (perm_of_keys ha1).append (perm_of_keys ha2))
  rw [K7] at o8
  rw [addI_i64 (by omega) (by omega)]
  rw [show (((l1 + l2 : Nat) : Int) == (l1 : Int) + (l2 : Int)) = true by simp]
  simp only [BIf_true]
  have f48 : Fr (fun _ => False) w4 w8 := (((f5.trans f6 fun _ h => h.elim).trans f7 fun _ h => h.elim).trans f8 fun _ h => h.elim)
  have hsl := srt_len (x1 ++ x2)
  refine F20_call (F20_spec o8.ints (o4.fr f48 fun _ _ h => h).ints (by omega) (by omega) (by omega) (back_bool ?_))
  exact hk w8 (f04.trans f48 fun _ h => h.elim)
end Go.Proofs.Ytpjjnckgjohaeaa.E
