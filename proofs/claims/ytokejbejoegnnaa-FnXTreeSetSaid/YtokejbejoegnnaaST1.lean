/-
  Sets of numbers in memory; the small functions around them.
-/
import Derived.Test.YtokejbejoegnnaaSetPlain
import Derived.Test.YtokejbejoegnnaaSortW
import Derived.Test.YtokejbejoegnnaaLists
import Derived.Test.YtokejbejoegnnaaShelfB
import Derived.Test.YtokejbejoegnnaaFnsA
namespace Go.Proofs.Ytokejbejoegnnaa.E
open Go Go.Sort
set_option linter.unusedSimpArgs false
set_option linter.unusedVariables false
set_option maxRecDepth 100000
set_option maxHeartbeats 4000000

theorem und98 : Try.prog.underlying 98 = some (.map 20 101) := by kernel_rfl
theorem und20 : Try.prog.underlying 20 = some (.interface #[]) := by kernel_rfl
theorem und3 : Try.prog.underlying 3 = some (.int .i64) := by kernel_rfl
theorem und24 : Try.prog.underlying 24 = some (.slice 3) := by kernel_rfl
theorem und76 : Try.prog.underlying 76 = some (.slice 20) := by kernel_rfl
theorem und26 : Try.prog.underlying 26 = some (.slice 4) := by kernel_rfl
theorem und56 : Try.prog.underlying 56 = some (.slice 28) := by kernel_rfl
theorem und33 : Try.prog.underlying 33 = some (.slice 32) := by kernel_rfl
theorem inf3 : ∃ i, Try.prog.info? 3 = some i ∧ i.zero = some (.int .i64 0) ∧ i.size = 1 ∧ i.bytes = 8 ∧ i.comparable = true := ⟨_, rfl, by kernel_rfl, by kernel_rfl, by kernel_rfl, by kernel_rfl⟩
theorem inf20 : ∃ i, Try.prog.info? 20 = some i ∧ i.zero = some .nilIface ∧ i.size = 1 ∧ i.bytes = 16 := ⟨_, rfl, by kernel_rfl, by kernel_rfl, by kernel_rfl⟩
theorem inf4 : ∃ i, Try.prog.info? 4 = some i ∧ i.zero = some (.bool false) ∧ i.size = 1 ∧ i.bytes = 1 := ⟨_, rfl, by kernel_rfl, by kernel_rfl, by kernel_rfl⟩
def z28 : Value := .agg #[.int .i64 0, .slice none 0 0, .bool false, .slice none 0 0]
theorem inf28 : ∃ i, Try.prog.info? 28 = some i ∧ i.zero = some z28 ∧ i.size = 4 ∧ i.bytes ≤ 4096 := ⟨_, rfl, by kernel_rfl, by kernel_rfl, Nat.le_of_ble_eq_true (by kernel_rfl)⟩
def z32 : Value := .agg #[.int .i64 0, .slice none 0 0]
theorem inf32 : ∃ i, Try.prog.info? 32 = some i ∧ i.zero = some z32 ∧ i.size = 2 ∧ i.bytes ≤ 4096 := ⟨_, rfl, by kernel_rfl, by kernel_rfl, Nat.le_of_ble_eq_true (by kernel_rfl)⟩
theorem inf101 : ∃ i, Try.prog.info? 101 = some i ∧ i.zero = some (.agg #[]) := ⟨_, rfl, by kernel_rfl⟩
def kI (n : Int) : Value := .iface 3 (.int .i64 n)
theorem keyI : KeyOk Try.prog 20 kI := by obtain ⟨i, h1, h2, h3, h4, h5⟩ := inf3; exact keyOk_iface und20 und3 h1 h5
theorem zero101 (w : World) : (zeroValue 101).run Try.prog w = .ok (.agg #[]) w := by obtain ⟨i, h1, h2⟩ := inf101; exact zero_of h1 h2 w
theorem look_in {w : World} {b : Nat} {l : List (Int × Value)} (h : MapB w b kI l) (a : Int) (hl : ∀ v, getL a l = some v → v = .agg #[]) {f : Bool → W} (hk : f (getL a l).isSome w) :
    RawS Try.prog (Instr.lookup 98 (.map (some b)) (kI a) true) (.tup [(.agg []), (.one .bool)]) f w := by
  have hr := lookup_run und98 keyI (zero101 w) h a true
  cases hg : getL a l with
  | none => rw [hg] at hr hk; exact ⟨(false, ()), hr, hk⟩
  | some v => rw [hg] at hr hk; obtain rfl := hl v hg; exact ⟨(true, ()), hr, hk⟩
theorem getL_map (a : Int) (f : Int → Value) : ∀ l : List Int, getL a (l.map fun v => (v, f v)) = if a ∈ l then some (f a) else none
  | [] => by simp [getL]
  | x :: l => by
    simp only [List.map_cons, getL, getL_map a f l]
    by_cases h : a = x
    · simp [h]
    · simp [h]
theorem putL_new {a : Int} {v : Value} {l : List (Int × Value)} (h : getL a l = none) : putL a v l = l ++ [(a, v)] := by
  have := idx_get a l 0
  rw [h] at this
  exact putL_push (i := 0) (by simpa using this)


theorem putL_same {a : Int} {v : Value} : ∀ {l : List (Int × Value)}, getL a l = some v → putL a v l = l
  | [], h => by cases h
  | p :: l, h => by
    unfold getL at h
    unfold putL
    split at h
    · rename_i e; rw [if_pos e]; cases h; rw [show (p.1, p.2) = p from rfl]
    · rename_i e; rw [if_neg e, putL_same h]
theorem delL_map (a : Int) (v : Value) : ∀ l : List Int, delL a (l.map fun x => (x, v)) = (l.erase a).map fun x => (x, v)
  | [] => rfl
  | x :: l => by
    simp only [List.map_cons, delL, List.erase_cons]
    by_cases h : a = x
    · subst h; simp
    · rw [if_neg h, show (x == a) = false by simpa using fun e => h e.symm, delL_map a v l]; rfl
def elems (S : List Int) : List (Int × Value) := S.map fun x => (x, .agg #[])
theorem putL_elems (a : Int) (S : List Int) : putL a (.agg #[]) (elems S) = elems (addK S a) := by
  unfold elems addK
  by_cases h : a ∈ S
  · rw [if_pos h]; exact putL_same (by rw [getL_map, if_pos h])
  · rw [if_neg h, putL_new (by rw [getL_map, if_neg h])]; simp
/-- The set at sb. -/
structure SetAt (w : World) (sb mb : Nat) (S : List Int) (fp : Option Addr) (fl fc : Nat) : Prop where
  head : Blk w sb 100 [.map (some mb), .slice fp fl fc]
  items : MapB w mb kI (elems S)
theorem SetAt.fr {T : Nat → Prop} {w w' : World} {sb mb fl fc : Nat} {S : List Int} {fp : Option Addr} (h : SetAt w sb mb S fp fl fc) (f : Fr T w w') (h1 : ¬ T sb) (h2 : ¬ T mb) : SetAt w' sb mb S fp fl fc := ⟨h.head.fr f h1, h.items.fr f h2⟩
theorem SetAt.fr0 {w w' : World} {sb mb fl fc : Nat} {S : List Int} {fp : Option Addr} (h : SetAt w sb mb S fp fl fc) (f : Fr (fun _ => False) w w') : SetAt w' sb mb S fp fl fc := h.fr f id id
/-- A list of numbers as the package takes it. -/
def Anys (w : World) (p : Option Addr) (xs : List Int) : Prop := ∀ i x, xs[i]? = some x → ∃ a, p = some a ∧ w.cell? (a.add i) = some (kI x)
theorem Anys.fr {T : Nat → Prop} {w w' : World} {p : Option Addr} {xs : List Int} (h : Anys w p xs) (f : Fr T w w') (hT : ∀ b, bl p b → ¬ T b) : Anys w' p xs := fun i x hx => by
  obtain ⟨a, h1, h2⟩ := h i x hx
  subst h1
  have hb : (a.add i).block = a.block := by unfold Addr.add; split <;> rfl
  exact ⟨a, rfl, by rw [f.cell (cell_lt h2) (by rw [hb]; exact hT _ ⟨_, rfl, rfl⟩)]; exact h2⟩
theorem Own.anys {w : World} {p : Option Addr} {l c : Nat} {xs : List Int} (h : Own w 20 p l c (xs.map kI)) : Anys w p xs := fun i x hx => by
  have hl : xs.length = l := by simpa using h.1
  have hi : i < xs.length := (List.getElem?_eq_some_iff.1 hx).1
  obtain ⟨q, rest, rfl, _, _, _⟩ := h.get (by omega)
  exact ⟨_, rfl, by rw [add_mk, Nat.zero_add, h.cell (by omega), List.getElem?_map, hx]; rfl⟩

theorem F31_spec {k : Value → W} {w : World} {p : Option Addr} {l c : Nat} {xs : List Int} (hX : Ints w p xs) (hl : l = xs.length) (hb : xs.length < 100000)
    (hk : ∀ q c' w', Own w' 20 q l c' (xs.map kI) → (∀ b, bl q b → w.heap.size ≤ b) → Fr (fun _ => False) w w' → k (.slice q l c') w') : F31 k p l c w := by
  subst hl
  unfold F31
  refine F31_L1_rule (fun op ol oc sp sl sc x6 x7 w' => sp = p ∧ sl = xs.length ∧ x6 = (xs.length : Nat) ∧ ∃ i : Nat, x7 = i ∧ i ≤ xs.length ∧ ol = i ∧ Own w' 20 op i oc ((xs.take i).map kI) ∧ (∀ b, bl op b → w.heap.size ≤ b) ∧ Fr (fun _ => False) w w')
    (fun _ _ _ _ _ _ x6 x7 _ => (x6 - x7).toNat) ?_ ⟨rfl, rfl, rfl, 0, rfl, Nat.zero_le _, rfl, Own.nil _ _, fun b hb => (by obtain ⟨a, h, _⟩ := hb; cases h), Fr.refl _ _⟩
  rintro op ol oc sp sl sc x6 x7 w2 ⟨hsp, hsl, rfl, i, rfl, hi, hol, o2, hb2, f2⟩
  obtain rfl := hsp.symm; obtain rfl := hsl.symm; obtain rfl := hol.symm
  unfold F31_L1
  by_cases hil : i < xs.length
  rotate_left
  · have : i = xs.length := by omega
    subst this
    rw [decide_eq_false (by omega)]
    rw [List.take_length] at o2
    simp only [BIf_false]
    exact hk _ _ _ o2 hb2 f2
  rw [decide_eq_true (by omega)]
  have hget : xs[i]? = some (xs[i]'(by omega)) := List.getElem?_eq_getElem _
  generalize xs[i]'(by omega) = x at hget
  obtain ⟨a, rfl, hc⟩ := hX.fr0 f2 i x hget
  simp only [BIf_true, NN_mk, Int.toNat_natCast]
  refine ⟨by omega, LoadT_int.2 ⟨_, hc, ?_⟩⟩
  rw [add_one (by omega)]
  obtain ⟨ii, hi1, hi2, hi3, hi4⟩ := inf20
  refine append1 (P := Try.prog) und76 hi1 hi2 hi3 rfl (by omega) o2 rfl rfl (by omega) fun p7 c7 w7 f7 o7 hp7 hs7 => ?_
  refine ⟨⟨(by trivial), (by trivial), (by trivial), i + 1, rfl, by omega, (by trivial), ?_, ?_, f2.trans f7 fun b hb => .inr (hb2 b hb)⟩, by omega⟩
  · rw [take_snoc hget, List.map_append]; exact o7
  · intro b hb
    rcases hp7 b hb with h | h
    · exact hb2 b h
    · exact Nat.le_trans f2.size h
theorem makeMap_hint {t kt el : TypeId} {n : Int} {f : Option Nat → W} {w : World} (ht : Try.prog.underlying t = some (.map kt el)) (hk : ∀ n w', n = w.heap.size → MapB w' n kI [] → Fr (fun _ => False) w w' → w'.heap.size = n + 1 → f (some n) w') :
    RawT Try.prog (Instr.makeMap t (some (.int .i64 n))) (.s (.one .map)) f w :=
  RawT_map (w' := w.alloc (.map #[] 0)) (p := some w.heap.size) (by simp [Instr.makeMap, run_underlying ht, asInt, asIntOf]) (hk _ _ rfl (MapB.new w) (Fr.alloc _ _ _) (by simp))
/-- New. -/
theorem F30_spec {k : Value → W} {w : World} {p : Option Addr} {l c : Nat} {xs : List Int} (hX : Anys w p xs) (hl : l = xs.length) (hb : xs.length < 100000)
    (hk : ∀ sb mb w', w.heap.size ≤ sb → w.heap.size ≤ mb → SetAt w' sb mb (addAll [] xs) none 0 0 → Fr (fun _ => False) w w' → k (.pointer (some ⟨sb, 0, none⟩)) w') : F30 k p l c w := by
  subst hl
  unfold F30
  refine makeMap_hint und98 fun mb w1 e1 m1 f1 z1 => ?_
  refine new_intro fun sb w2 e2 b2 f2 z2 => ?_
  have m2 := m1.fr f2 id
  refine F30_L1_rule (fun ip il ic st sp sl sc x7 x8 w' => il = xs.length ∧ st = ⟨sb, 0, none⟩ ∧ sp = p ∧ sl = xs.length ∧ x7 = (xs.length : Nat) ∧ ∃ i : Nat, x8 = i ∧ i ≤ xs.length ∧ SetAt w' sb mb (addAll [] (xs.take i)) none 0 0 ∧ Fr (fun _ => False) w w')
    (fun _ _ _ _ _ _ _ x7 x8 _ => (x7 - x8).toNat) ?_ ⟨rfl, rfl, rfl, rfl, rfl, 0, rfl, Nat.zero_le _, ⟨b2, m2⟩, f1.trans f2 fun _ h => h.elim⟩
  rintro ip il ic st sp sl sc x7 x8 w3 ⟨hil', rfl, hsp, hsl, rfl, i, rfl, hi, s3, f3⟩
  obtain rfl := hil'.symm; obtain rfl := hsp.symm; obtain rfl := hsl.symm
  unfold F30_L1
  by_cases hil : i < xs.length
  rotate_left
  · have : i = xs.length := by omega
    subst this
    rw [decide_eq_false (by omega)]
    rw [List.take_length] at s3
    simp only [BIf_false]
    refine BIf_intro (fun _ => ?_) fun _ => hk sb mb w3 (by omega) (by omega) s3 f3
    refine store_intro s3.head (by simp) rfl fun w4 b4 f4 z4 => ?_
    refine hk sb mb w4 (by omega) (by omega) ⟨b4, s3.items.fr f4 fun e => s3.items.not_blk s3.head e⟩ (f3.trans f4 fun b e => .inr (by have : b = sb := e; omega))
  rw [decide_eq_true (by omega)]
  have hget : xs[i]? = some (xs[i]'(by omega)) := List.getElem?_eq_getElem _
  generalize xs[i]'(by omega) = x at hget
  obtain ⟨a, rfl, hc⟩ := (hX.fr f3 fun _ _ h => h) i x hget
  simp only [BIf_true, NN_mk, Int.toNat_natCast]
  refine ⟨by omega, LoadT_any.2 ⟨_, hc, ?_⟩⟩
  refine load_map s3.head rfl ?_
  refine mapUpdate_intro und98 keyI s3.items fun w4 m4 f4 z4 => ?_
  rw [putL_elems] at m4
  rw [add_one (by omega)]
  refine ⟨⟨(by trivial), (by trivial), (by trivial), (by trivial), (by trivial), i + 1, rfl, by omega, ⟨s3.head.fr f4 fun e => s3.items.not_blk s3.head e.symm, ?_⟩, f3.trans f4 fun b e => .inr (by have : b = mb := e; omega)⟩, by omega⟩
  rw [take_snoc hget, addAll_snoc]; exact m4
/-- Add. -/
theorem F32_spec {k : Value → W} {w : World} {sb mb fl fc : Nat} {S : List Int} {fp p : Option Addr} {l c : Nat} {xs : List Int} (hS : SetAt w sb mb S fp fl fc) (hX : Anys w p xs) (hl : l = xs.length) (hb : xs.length < 100000) (hp : ∀ b, bl p b → b ≠ sb ∧ b ≠ mb)
    (hk : ∀ w', SetAt w' sb mb (addAll S xs) none 0 0 → Fr (fun b => b = sb ∨ b = mb) w w' → k (.tuple #[]) w') : F32 k (some ⟨sb, 0, none⟩) p l c w := by
  subst hl
  unfold F32
  refine store_intro hS.head (by simp) rfl fun w1 b1 f1 z1 => ?_
  have f1' : Fr (fun b => b = sb ∨ b = mb) w w1 := f1.mono fun b e => .inl (.inl e)
  refine F32_L1_rule (fun st sp sl sc x7 x8 w' => st = some ⟨sb, 0, none⟩ ∧ sp = p ∧ sl = xs.length ∧ x7 = (xs.length : Nat) ∧ ∃ i : Nat, x8 = i ∧ i ≤ xs.length ∧ SetAt w' sb mb (addAll S (xs.take i)) none 0 0 ∧ Fr (fun b => b = sb ∨ b = mb) w w')
    (fun _ _ _ _ x7 x8 _ => (x7 - x8).toNat) ?_ ⟨rfl, rfl, rfl, rfl, 0, rfl, Nat.zero_le _, ⟨b1, hS.items.fr f1 fun e => hS.items.not_blk hS.head e⟩, f1'⟩
  rintro st sp sl sc x7 x8 w3 ⟨hst, hsp, hsl, rfl, i, rfl, hi, s3, f3⟩
  obtain rfl := hst.symm; obtain rfl := hsp.symm; obtain rfl := hsl.symm
  unfold F32_L1
  by_cases hil : i < xs.length
  rotate_left
  · have : i = xs.length := by omega
    subst this
    rw [decide_eq_false (by omega)]
    rw [List.take_length] at s3
    simp only [BIf_false]
    exact hk w3 s3 f3
  rw [decide_eq_true (by omega)]
  have hget : xs[i]? = some (xs[i]'(by omega)) := List.getElem?_eq_getElem _
  generalize xs[i]'(by omega) = x at hget
  obtain ⟨a, rfl, hc⟩ := (hX.fr f3 fun b hb h => by have := hp b hb; rcases h with h | h; exact this.1 h; exact this.2 h) i x hget
  simp only [BIf_true, NN_mk, Int.toNat_natCast]
  refine ⟨by omega, LoadT_any.2 ⟨_, hc, ?_⟩⟩
  refine load_map s3.head rfl ?_
  refine mapUpdate_intro und98 keyI s3.items fun w4 m4 f4 z4 => ?_
  rw [putL_elems] at m4
  rw [add_one (by omega)]
  refine ⟨⟨(by trivial), (by trivial), (by trivial), (by trivial), i + 1, rfl, by omega, ⟨s3.head.fr f4 fun e => s3.items.not_blk s3.head e.symm, ?_⟩, f3.trans f4 fun b e => .inl (.inr e)⟩, by omega⟩
  rw [take_snoc hget, addAll_snoc]; exact m4
/-- Remove. -/
theorem F33_spec {k : Value → W} {w : World} {sb mb fl fc : Nat} {S : List Int} {fp p : Option Addr} {l c : Nat} {xs : List Int} (hS : SetAt w sb mb S fp fl fc) (hX : Anys w p xs) (hl : l = xs.length) (hb : xs.length < 100000) (hp : ∀ b, bl p b → b ≠ sb ∧ b ≠ mb)
    (hk : ∀ w', SetAt w' sb mb (remAll S xs) none 0 0 → Fr (fun b => b = sb ∨ b = mb) w w' → k (.tuple #[]) w') : F33 k (some ⟨sb, 0, none⟩) p l c w := by
  subst hl
  unfold F33
  refine store_intro hS.head (by simp) rfl fun w1 b1 f1 z1 => ?_
  have f1' : Fr (fun b => b = sb ∨ b = mb) w w1 := f1.mono fun b e => .inl (.inl e)
  refine F33_L1_rule (fun st sp sl sc x7 x8 w' => st = some ⟨sb, 0, none⟩ ∧ sp = p ∧ sl = xs.length ∧ x7 = (xs.length : Nat) ∧ ∃ i : Nat, x8 = i ∧ i ≤ xs.length ∧ SetAt w' sb mb (remAll S (xs.take i)) none 0 0 ∧ Fr (fun b => b = sb ∨ b = mb) w w')
    (fun _ _ _ _ x7 x8 _ => (x7 - x8).toNat) ?_ ⟨rfl, rfl, rfl, rfl, 0, rfl, Nat.zero_le _, ⟨b1, hS.items.fr f1 fun e => hS.items.not_blk hS.head e⟩, f1'⟩
  rintro st sp sl sc x7 x8 w3 ⟨hst, hsp, hsl, rfl, i, rfl, hi, s3, f3⟩
  obtain rfl := hst.symm; obtain rfl := hsp.symm; obtain rfl := hsl.symm
  unfold F33_L1
  by_cases hil : i < xs.length
  rotate_left
  · have : i = xs.length := by omega
    subst this
    rw [decide_eq_false (by omega)]
    rw [List.take_length] at s3
    simp only [BIf_false]
    exact hk w3 s3 f3
  rw [decide_eq_true (by omega)]
  have hget : xs[i]? = some (xs[i]'(by omega)) := List.getElem?_eq_getElem _
  generalize xs[i]'(by omega) = x at hget
  obtain ⟨a, rfl, hc⟩ := (hX.fr f3 fun b hb h => by have := hp b hb; rcases h with h | h; exact this.1 h; exact this.2 h) i x hget
  simp only [BIf_true, NN_mk, Int.toNat_natCast]
  refine ⟨by omega, LoadT_any.2 ⟨_, hc, ?_⟩⟩
  refine load_map s3.head rfl ?_
  refine delete_intro und98 keyI s3.items fun w4 m4 f4 z4 => ?_
  have ed : delL x (elems (remAll S (xs.take i))) = elems ((remAll S (xs.take i)).erase x) := delL_map _ _ _
  rw [ed] at m4
  rw [add_one (by omega)]
  refine ⟨⟨(by trivial), (by trivial), (by trivial), (by trivial), i + 1, rfl, by omega, ⟨s3.head.fr f4 fun e => s3.items.not_blk s3.head e.symm, ?_⟩, f3.trans f4 fun b e => .inl (.inr e)⟩, by omega⟩
  rw [take_snoc hget, remAll_snoc]; exact m4
/-- Len. -/
theorem F35_spec {k : Value → W} {w : World} {sb mb fl fc : Nat} {S : List Int} {fp : Option Addr} (hS : SetAt w sb mb S fp fl fc) (hk : k (.int .i64 (S.length : Nat)) w) : F35 k (some ⟨sb, 0, none⟩) w := by
  unfold F35
  refine load_map hS.head rfl (len_map und98 hS.items ?_)
  rw [elems, List.length_map]; exact hk
/-- Exists. -/
theorem F38_spec {k : Value → W} {w : World} {sb mb fl fc : Nat} {S : List Int} {fp : Option Addr} {x : Int} (hS : SetAt w sb mb S fp fl fc) (hk : ∀ w', Fr (fun _ => False) w w' → k (.bool (decide (x ∈ S))) w') : F38 k (some ⟨sb, 0, none⟩) (kI x) w := by
  unfold F38
  refine load_map hS.head rfl (look_in hS.items x (fun v hv => by rw [elems, getL_map] at hv; split at hv <;> cases hv; rfl) ?_)
  refine new_intro fun n w1 e1 b1 f1 z1 => ?_
  rw [elems, getL_map, show (if x ∈ S then some (Value.agg #[]) else none).isSome = decide (x ∈ S) by split <;> simp [*]]
  exact hk w1 f1
/-- All. -/
theorem F36_spec {k : Value → W} {w : World} {sb mb fl fc : Nat} {S : List Int} {fp p : Option Addr} {l c : Nat} {xs : List Int} (hS : SetAt w sb mb S fp fl fc) (hX : Anys w p xs) (hl : l = xs.length) (hb : xs.length < 100000)
    (hk : ∀ r w', Fr (fun _ => False) w w' → k (.bool r) w') : F36 k (some ⟨sb, 0, none⟩) p l c w := by
  subst hl
  unfold F36
  refine F36_L1_rule (fun st sp sl sc x5 x6 w' => st = some ⟨sb, 0, none⟩ ∧ sp = p ∧ sl = xs.length ∧ x5 = (xs.length : Nat) ∧ Fr (fun _ => False) w w' ∧ ∃ i : Nat, x6 = i ∧ i ≤ xs.length)
    (fun _ _ _ _ x5 x6 _ => (x5 - x6).toNat) ?_ ⟨rfl, rfl, rfl, rfl, Fr.refl _ _, 0, rfl, Nat.zero_le _⟩
  rintro st sp sl sc x5 x6 w3 ⟨hst, hsp, hsl, rfl, f3, i, rfl, hi⟩
  obtain rfl := hst.symm; obtain rfl := hsp.symm; obtain rfl := hsl.symm
  unfold F36_L1
  by_cases hil : i < xs.length
  rotate_left
  · rw [decide_eq_false (by omega)]
    exact hk true w3 f3
  rw [decide_eq_true (by omega)]
  have hget : xs[i]? = some (xs[i]'(by omega)) := List.getElem?_eq_getElem _
  generalize xs[i]'(by omega) = x at hget
  obtain ⟨a, rfl, hc⟩ := (hX.fr f3 fun _ _ h => h) i x hget
  simp only [BIf_true, NN_mk, Int.toNat_natCast]
  refine ⟨by omega, LoadT_any.2 ⟨_, hc, ?_⟩⟩
  have s3 := hS.fr0 f3
  refine load_map s3.head rfl (look_in s3.items x (fun v hv => by rw [elems, getL_map] at hv; split at hv <;> cases hv; rfl) ?_)
  refine new_intro fun n w4 e4 b4 f4 z4 => ?_
  have f04 := f3.trans f4 fun _ h => h.elim
  refine BIf_intro (fun _ => hk false w4 f04) fun _ => ?_
  rw [add_one (by omega)]
  exact ⟨⟨(by trivial), (by trivial), (by trivial), (by trivial), f04, i + 1, rfl, by omega⟩, by omega⟩
theorem nodup_le : ∀ (n : Nat) (ts : List Nat), ts.Nodup → (∀ i ∈ ts, i < n) → ts.length ≤ n
  | 0, ts, _, h => by
    cases ts with
    | nil => simp
    | cons a l => exact absurd (h a (List.mem_cons_self ..)) (by omega)
  | n + 1, ts, hn, h => by
    by_cases hm : n ∈ ts
    · have := nodup_le n (ts.erase n) (hn.erase n) fun i hi => by
        have h1 := (hn.mem_erase_iff).1 hi
        have := h i h1.2
        have := h1.1
        omega
      rw [List.length_erase_of_mem hm] at this
      omega
    · have := nodup_le n ts hn fun i hi => by
        have h1 := h i hi
        have : i ≠ n := fun e => hm (e ▸ hi)
        omega
      omega
theorem perm_all {ts : List Nat} {n : Nat} (hn : ts.Nodup) (h : ∀ i ∈ ts, i < n) (ha : ∀ i, i < n → i ∈ ts) : ts.Perm (List.range n) := by
  rw [List.perm_iff_count]
  intro a
  rw [hn.count, List.nodup_range.count]
  have : a ∈ ts ↔ a ∈ List.range n := by rw [List.mem_range]; exact ⟨h a, ha a⟩
  simp only [this]
theorem map_getD (l : List Int) : (List.range l.length).map (fun j => l.getD j 0) = l := by
  apply List.ext_getElem
  · simp
  · intro i h1 h2; simp [List.getD_eq_getElem?_getD, List.getElem?_eq_getElem h2]

def lenAt (w : World) (b : Nat) : Nat := match w.cell? ⟨b, 1, none⟩ with | some (.slice _ l _) => l | _ => 0
/-- Flatten, of a set that has not been asked. -/
theorem F37_new {k : Value → W} {w : World} {sb mb fl fc : Nat} {S : List Int} (hS : SetAt w sb mb S none fl fc) (hb : S.length < 100000)
    (hk : ∀ (xs : List Int) q m c w', xs.Perm S → m = xs.length → q.isNone = false → Own w' 20 q m c (xs.map kI) → (∀ b, bl q b → w.heap.size ≤ b) → SetAt w' sb mb S q m c → Fr (fun b => b = sb) w w' → k (.slice q m c) w') : F37 k (some ⟨sb, 0, none⟩) w := by
  unfold F37
  refine load_slice hS.head rfl ?_
  simp only [Option.isNone_none, Bool.not_true, BIf_false]
  refine load_map hS.head rfl (len_map und98 hS.items ?_)
  rw [elems, List.length_map]
  obtain ⟨ii, hi1, hi2, hi3, hi4⟩ := inf20
  refine make_intro (P := Try.prog) 0 S.length und76 hi1 hi2 hi3 rfl (by omega) (by omega) (Nat.zero_le _) fun w1 f1 o1 b1 z1 => ?_
  have s1 := hS.fr0 f1
  refine store_intro s1.head (by simp) rfl fun w2 b2 f2 z2 => ?_
  have m2 := s1.items.fr f2 fun e => s1.items.not_blk s1.head e
  have o2 := o1.fr f2 fun b ⟨a, h, e⟩ g => by cases h; have h1 := hS.head.lt; have : w.heap.size = b := e; have : b = sb := g; omega
  refine load_map b2 rfl (range_intro und98 m2 fun r w3 hr it3 f3 z3 => ?_)
  have b3 := b2.fr f3 id
  have o3 := o2.fr f3 fun _ _ h => h
  have f03 : Fr (fun b => b = sb) w w3 := ((f1.mono (S' := fun b => b = sb) fun _ h => h.elim).trans f2 fun b e => .inl e).trans f3 fun _ h => h.elim
  have hsb := hS.head.lt
  have hmb := hS.items.lt
  have hnm : mb ≠ sb := fun e => hS.items.not_blk hS.head e
  have hLg : ∀ i (hi : i < (elems S).length), kI (elems S)[i].1 = kI (S.getD i 0) := fun i hi => by
    have : i < S.length := by simpa [elems] using hi
    simp [elems, List.getD_eq_getElem?_getD, List.getElem?_eq_getElem this]
  have hLn : (elems S).length = S.length := by simp [elems]
  refine F37_L1_rule (fun st v w' => st = some ⟨sb, 0, none⟩ ∧ v = .pointer (some ⟨r, 0, none⟩) ∧ ∃ (ts : List Nat) (p : Option Addr) (c : Nat), p.isNone = false ∧ It w' r mb kI (elems S) ts ∧ Blk w' sb 100 [.map (some mb), .slice p ts.length c] ∧ Own w' 20 p ts.length c (ts.map fun j => kI (S.getD j 0)) ∧ (∀ b, bl p b → w.heap.size ≤ b ∧ b ≠ r) ∧ Fr (fun b => b = sb) w w')
    (fun st v w' => S.length - lenAt w' sb) ?_ ⟨rfl, rfl, [], some ⟨w.heap.size, 0, none⟩, S.length, rfl, it3, b3, by simpa using o3, fun b ⟨a, h, e⟩ => by cases h; have : w.heap.size = b := e; omega, f03⟩
  rintro st v w4 ⟨hst, hv, ts, p, c, hp, it4, b4, o4, hp4, f4⟩
  obtain rfl := hst.symm; obtain rfl := hv.symm
  unfold F37_L1
  have htl := nodup_le (elems S).length ts it4.nd it4.le
  have hls : lenAt w4 sb = ts.length := by unfold lenAt; rw [b4.cell]; rfl
  refine next_intro it4 (fun hall => ?_) fun i hi w5 hnot it5 f5 z5 => ?_
  · refine ⟨(false, ()), ⟨_, rfl, rfl⟩, ?_⟩
    refine load_slice b4 rfl ?_
    have hpm := perm_all it4.nd it4.le hall
    refine hk (ts.map fun j => S.getD j 0) p ts.length c w4 ?_ (by simp) hp (by rw [List.map_map]; exact o4) (fun b hb => (hp4 b hb).1) ⟨b4, it4.map⟩ f4
    have := hpm.map fun j => S.getD j 0
    rw [hLn, map_getD] at this
    exact this
  · refine ⟨(true, ()), ⟨_, rfl, rfl⟩, ?_⟩
    show RawT _ _ _ _ w5
    refine entry_intro it5 hi ?_
    refine ⟨(kI (elems S)[i].1, ()), ⟨_, rfl, rfl⟩, ?_⟩
    have htl5 := nodup_le (elems S).length (ts ++ [i]) it5.nd it5.le
    rw [List.length_append, List.length_singleton] at htl5
    have hr4 := it4.lt
    have b5 := b4.fr f5 fun e => by have : sb = r := e; have := f1.size; have := f2.size; omega
    have o5 := o4.fr f5 fun b hb e => (hp4 b hb).2 e
    show LoadT _ _ _ w5
    refine load_slice b5 rfl ?_
    refine append1 (P := Try.prog) und76 hi1 hi2 hi3 rfl (by omega) o5 rfl rfl (by omega) fun p6 c6 w6 f6 o6 hp6 hs6 => ?_
    have hnb : ∀ b, bl p b → b ≠ sb ∧ b ≠ mb := fun b hb => by have := (hp4 b hb).1; omega
    have b6 := b5.fr f6 fun e => (hnb sb e).1 rfl
    have it6 := it5.fr f6 (fun e => (hnb mb e).2 rfl) (fun e => (hp4 r e).2 rfl)
    have hr5 := it5.lt
    have hp6' : ∀ b, bl p6 b → w.heap.size ≤ b ∧ b ≠ r := fun b hb => by
      rcases hp6 b hb with h | h
      · exact hp4 b h
      · have := f4.size; have := f5.size; omega
    rw [NN_mk]
    refine store_intro b6 (by simp) rfl fun w7 b7 f7 z7 => ?_
    have it7 := it6.fr f7 hnm (fun e => by have : r = sb := e; have := f1.size; have := f2.size; omega)
    have o7 := o6.fr f7 fun b hb e => by have h1 := (hp6' b hb).1; have : b = sb := e; omega
    refine ⟨⟨(by trivial), (by trivial), ts ++ [i], p6, c6, ?_, it7, ?_, ?_, hp6', ((f4.trans f5 fun b e => .inr (by have : b = r := e; have := f1.size; have := f2.size; omega)).trans f6 fun b hb => .inr (hp4 b hb).1).trans f7 fun b e => .inl e⟩, ?_⟩
    · obtain ⟨q, r6, rfl, _, _, _⟩ := o6.get (by omega)
      rfl
    · rw [List.length_append, List.length_singleton]; exact b7
    · rw [List.length_append, List.length_singleton, List.map_append]
      rw [hLg i hi] at o7; exact o7
    · have h7 : lenAt w7 sb = ts.length + 1 := by unfold lenAt; rw [b7.cell]; rfl
      rw [hls, h7]; omega
/-- Flatten, asked again. -/
theorem F37_old {k : Value → W} {w : World} {sb mb fl fc : Nat} {S : List Int} {fp : Option Addr} (hS : SetAt w sb mb S fp fl fc) (hf : fp.isNone = false) (hk : k (.slice fp fl fc) w) : F37 k (some ⟨sb, 0, none⟩) w := by
  unfold F37
  refine load_slice hS.head rfl ?_
  rw [hf]
  simp only [Bool.not_false, BIf_true]
  exact load_slice hS.head rfl hk
end Go.Proofs.Ytokejbejoegnnaa.E
