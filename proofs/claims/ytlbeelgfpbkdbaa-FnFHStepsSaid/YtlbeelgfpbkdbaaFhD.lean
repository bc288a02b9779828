/-
  Rows of numbers, walked; FnFHShift.
-/
import Derived.Test.YtlbeelgfpbkdbaaFhC
namespace Go.Proofs.Ytlbeelgfpbkdbaa.E
open Go
set_option linter.unusedSimpArgs false
set_option linter.unusedVariables false
set_option maxRecDepth 100000
set_option maxHeartbeats 4000000

/-- slices.Equal. -/
theorem F10_spec {k : Value → W} {w : World} {p q : Option Addr} {l c m d : Nat} {xs ys : List Int} (hX : Ints w p xs) (hY : Ints w q ys) (hl : l = xs.length) (hm : m = ys.length) (hb : xs.length < 100000)
    (hk : ∀ w', Fr (fun _ => False) w w' → k (.bool (decide (xs = ys))) w') : F10 k p l c q m d w := by
  subst hl; subst hm
  unfold F10
  by_cases hne : xs.length = ys.length
  rotate_left
  · rw [show (((xs.length : Nat) : Int) != ((ys.length : Nat) : Int)) = true by simp; omega]
    simp only [BIf_true]
    rw [show false = decide (xs = ys) from (decide_eq_false fun e => hne (by rw [e])).symm]
    exact hk w (Fr.refl _ _)
  rw [show (((xs.length : Nat) : Int) != ((ys.length : Nat) : Int)) = false by simp; omega]
  simp only [BIf_false]
  refine F10_L1_rule (fun sp sl sc tp tl tc x5 x6 w' => Fr (fun _ => False) w w' ∧ sp = p ∧ sl = xs.length ∧ tp = q ∧ tl = ys.length ∧ x5 = (xs.length : Nat) ∧ ∃ i : Nat, x6 = i ∧ i ≤ xs.length ∧ xs.take i = ys.take i) (fun _ _ _ _ _ _ x5 x6 _ => (x5 - x6).toNat) ?_ ⟨Fr.refl _ _, rfl, rfl, rfl, rfl, rfl, 0, rfl, Nat.zero_le _, by simp⟩
  rintro sp sl sc tp tl tc x5 x6 w' ⟨f, hsp, hsl, htp, htl, rfl, i, rfl, hi, he⟩
  obtain rfl := hsp.symm; obtain rfl := hsl.symm; obtain rfl := htp.symm; obtain rfl := htl.symm
  unfold F10_L1
  by_cases hil : i < xs.length
  rotate_left
  · have : i = xs.length := by omega
    subst this
    rw [decide_eq_false (by omega)]
    rw [List.take_length, hne, List.take_length] at he
    simp only [BIf_false]
    rw [show true = decide (xs = ys) from (decide_eq_true he).symm]
    exact hk w' f
  rw [decide_eq_true (by omega)]
  have hgx : xs[i]? = some (xs[i]'(by omega)) := List.getElem?_eq_getElem _
  have hgy : ys[i]? = some (ys[i]'(by omega)) := List.getElem?_eq_getElem _
  generalize xs[i]'(by omega) = x at hgx
  generalize ys[i]'(by omega) = y at hgy
  simp only [BIf_true]
  refine drw_intro fun w2 f2 z2 => ?_
  have f02 := f.trans f2 fun _ h => h.elim
  obtain ⟨a, rfl, hc⟩ := hX.fr0 f02 i x hgx
  obtain ⟨b, rfl, hd⟩ := hY.fr0 f02 i y hgy
  simp only [NN_mk, Int.toNat_natCast]
  refine ⟨by omega, LoadT_int.2 ⟨_, hc, ⟨by omega, LoadT_int.2 ⟨_, hd, ?_⟩⟩⟩⟩
  by_cases hxy : x = y
  · subst hxy
    rw [show (x != x) = false by simp]
    simp only [BIf_false]
    have e : addI .i64 (i : Nat) 1 = ((i + 1 : Nat) : Int) := by rw [addI_i64 (by omega) (by omega)]; simp
    rw [e]
    refine ⟨⟨f02, (by trivial), (by trivial), (by trivial), (by trivial), (by trivial), i + 1, rfl, by omega, ?_⟩, by omega⟩
    rw [take_snoc hgx, take_snoc hgy, he]
  · rw [show (x != y) = true by simpa using hxy]
    simp only [BIf_true]
    rw [show false = decide (xs = ys) from (decide_eq_false fun e => hxy (by rw [e, hgy] at hgx; exact (Option.some.inj hgx).symm)).symm]
    exact hk w2 f02
def Small (xs : List Int) : Prop := ∀ x ∈ xs, -32768 ≤ x ∧ x < 32768
def enqs (xs : List Int) : List FS := xs.map fun x => ⟨1, 0, x⟩
/-- dfEnqueue. -/
theorem F8_spec {k : Value → W} {w : World} {p : Option Addr} {l c : Nat} {xs : List Int} {d : Int} (hX : Shorts w p xs) (hl : l = xs.length) (h30 : l ≤ 30) (hx : Small xs) (hd : -32768 ≤ d ∧ d < 32768)
    (hk : ∀ op oc w', Steps w' op l oc (enqs (xs.map (· + d))) → NewS w.heap.size op → Fr (fun _ => False) w w' → k (.slice op l oc) w') : F8 k p l c d w := by
  subst hl
  unfold F8
  refine F8_L1_rule (fun by3 op ol oc sp sl sc x6 x7 w' => by3 = d ∧ sp = p ∧ sl = xs.length ∧ x6 = (xs.length : Nat) ∧ ∃ i : Nat, x7 = i ∧ i ≤ xs.length ∧ ol = i ∧ Steps w' op i oc (enqs ((xs.take i).map (· + d))) ∧ NewS w.heap.size op ∧ Fr (fun _ => False) w w')
    (fun _ _ _ _ _ _ _ x6 x7 _ => (x6 - x7).toNat) ?_ ⟨rfl, rfl, rfl, rfl, 0, rfl, Nat.zero_le _, rfl, OwnN.nil _ _ _, (fun b hb => (by obtain ⟨a, h, _⟩ := hb; cases h)), Fr.refl _ _⟩
  rintro by3 op ol oc sp sl sc x6 x7 w1 ⟨e1, esp, rfl, rfl, i, rfl, hi, eol, S, N, f⟩
  obtain rfl := e1.symm
  obtain rfl := esp.symm
  obtain rfl := eol.symm
  unfold F8_L1
  by_cases hil : i < xs.length
  · rw [decide_eq_true (by omega)]
    have hget : xs[i]? = some (xs[i]'hil) := List.getElem?_eq_getElem _
    generalize xs[i]'hil = x at hget
    obtain ⟨a, rfl, hc⟩ := hX.fr0 f i x hget
    have hb := hx x (List.mem_of_getElem? hget)
    simp only [BIf_true, NN_mk, Int.toNat_natCast]
    refine ⟨by omega, LoadT_int.2 ⟨_, hc, ?_⟩⟩
    rw [wrap_i64 (by omega) (by omega), addI_i64 (by omega) (by omega)]
    refine step1 (s := ⟨1, 0, x + d⟩) fun q wb bb fb eb => ?_
    refine steps_more (tt := [⟨1, 0, x + d⟩]) (OwnN.fr S fb fun _ _ h => h) bb rfl (by omega) fun p' c' wc oc hp' fc => ?_
    have f0b := f.trans fb fun _ h => h.elim
    rw [add_one (by omega)]
    refine ⟨⟨(by trivial), (by trivial), (by trivial), (by trivial), i + 1, rfl, by omega, (by trivial), ?_, fun b hb => (hp' b hb).elim (N b) fun h => by have := f0b.size; omega, f0b.trans fc fun b hb => .inr (N b hb)⟩, by omega⟩
    rw [take_snoc hget]
    simpa [enqs] using oc
  have : i = xs.length := by omega
  subst this
  rw [decide_eq_false (by omega)]
  simp only [BIf_false]
  rw [List.take_length] at S
  exact hk op oc w1 S N f
/-- dxPlus. -/
theorem F11_spec {k : Value → W} {w : World} {p : Option Addr} {l c : Nat} {xs : List Int} {d : Int} (hX : Ints w p xs) (hl : l = xs.length) (h30 : l ≤ 100) (hx : ∀ x ∈ xs, -1000000 ≤ x ∧ x < 1000000) (hd : -32768 ≤ d ∧ d < 32768)
    (hk : ∀ op oc w', Own w' 3 op l oc (ints (xs.map (· + d))) → NewS w.heap.size op → Fr (fun _ => False) w w' → k (.slice op l oc) w') : F11 k p l c d w := by
  subst hl
  unfold F11
  refine F11_L1_rule (fun by3 op ol oc sp sl sc x6 x7 w' => by3 = d ∧ sp = p ∧ sl = xs.length ∧ x6 = (xs.length : Nat) ∧ ∃ i : Nat, x7 = i ∧ i ≤ xs.length ∧ ol = i ∧ Own w' 3 op i oc (ints ((xs.take i).map (· + d))) ∧ NewS w.heap.size op ∧ Fr (fun _ => False) w w')
    (fun _ _ _ _ _ _ _ x6 x7 _ => (x6 - x7).toNat) ?_ ⟨rfl, rfl, rfl, rfl, 0, rfl, Nat.zero_le _, rfl, Own.nil _ _, (fun b hb => (by obtain ⟨a, h, _⟩ := hb; cases h)), Fr.refl _ _⟩
  rintro by3 op ol oc sp sl sc x6 x7 w1 ⟨e1, esp, rfl, rfl, i, rfl, hi, eol, S, N, f⟩
  obtain rfl := e1.symm
  obtain rfl := esp.symm
  obtain rfl := eol.symm
  unfold F11_L1
  by_cases hil : i < xs.length
  · rw [decide_eq_true (by omega)]
    have hget : xs[i]? = some (xs[i]'hil) := List.getElem?_eq_getElem _
    generalize xs[i]'hil = x at hget
    obtain ⟨a, rfl, hc⟩ := hX.fr0 f i x hget
    have hb := hx x (List.mem_of_getElem? hget)
    simp only [BIf_true, NN_mk, Int.toNat_natCast]
    refine ⟨by omega, LoadT_int.2 ⟨_, hc, ?_⟩⟩
    rw [addI_i64 (by omega) (by omega)]
    refine int1 S (by omega) fun p' c' wc fc oc hp' => ?_
    rw [add_one (by omega)]
    refine ⟨⟨(by trivial), (by trivial), (by trivial), (by trivial), i + 1, rfl, by omega, (by trivial), ?_, fun b hb => (hp' b hb).elim (N b) fun h => by have := f.size; omega, f.trans fc fun b hb => .inr (N b hb)⟩, by omega⟩
    rw [take_snoc hget, List.map_append]
    exact oc
  have : i = xs.length := by omega
  subst this
  rw [decide_eq_false (by omega)]
  simp only [BIf_false]
  rw [List.take_length] at S
  exact hk op oc w1 S N f
/-- dfWell. -/
theorem F6_spec {k : Value → W} {w : World} {p : Option Addr} {l c : Nat} (hk : k (.bool (decide (0 < l ∧ l ≤ 30))) w) : F6 k p l c w := by
  unfold F6
  by_cases h0 : 0 < l
  · rw [decide_eq_true (by omega)]
    simp only [BIf_true]
    refine bind_intro ?_
    rw [show decide (((l : Nat) : Int) ≤ 30) = decide (0 < l ∧ l ≤ 30) from decide_eq_decide.2 (by omega)]
    exact hk
  · rw [decide_eq_false (by omega)]
    simp only [BIf_false]
    rw [show false = decide (0 < l ∧ l ≤ 30) from (decide_eq_false (by omega)).symm]
    exact hk
theorem fit_small {x : Int} (h : -1000000 ≤ x ∧ x < 1000000) : Fit x := by unfold Fit; omega
/-- Enqueued, all comes out in order. -/
theorem out_enq {k : Value → W} {w : World} {p : Option Addr} {n c m : Nat} (xs : List Int) (hS : Steps w p n c (enqs xs)) (hm : m = n) (h0 : 0 < n) (hn : n ≤ 30) (hx : ∀ x ∈ xs, -1000000 ≤ x ∧ x < 1000000)
    (hk : ∀ op oc w' o, Ext xs o → o.length = n → Own w' 3 op n oc (ints o) → NewS w.heap.size op → Fr (fun _ => False) w w' → k (.tuple #[.slice op n oc, .bool true]) w') : F7 k p n c (m : Nat) w := by
  subst hm
  have hl : xs.length = m := by have := hS.len; simpa [enqs] using this
  refine F7_spec (enqs xs) (fun v => v = xs) hS h0 (by omega) h0 (by omega) ?_ fun op oc w' v o hv he ho => ?_
  · refine after_enq _ xs min0 (fun x h => fit_small (hx x h)) (by simp; omega) fun mi' o h1 h2 => ?_
    rw [cnt_inn]
    simp only [List.nil_append, inn_somes]
    exact ⟨hl, trivial⟩
  · subst hv; exact hk op oc w' o he ho
/-- FnFHShift. -/
theorem F4_spec {k : Value → W} {w : World} {p : Option Addr} {l c : Nat} {xs : List Int} {d : Int} (hX : Shorts w p xs) (hl : l = xs.length) (hx : Small xs) (hd : -32768 ≤ d ∧ d < 32768)
    (hk : ∀ w', Fr (fun _ => False) w w' → k (.bool true) w') : F4 k p l c d w := by
  unfold F4
  by_cases hbig : ((l : Nat) : Int) > 2147483647
  · rw [decide_eq_true hbig]; simp only [BIf_true]; exact hk _ (Fr.refl _ _)
  rw [decide_eq_false hbig]
  simp only [BIf_false]
  refine F6_call (F6_spec (back_bool ?_))
  by_cases h30 : 0 < l ∧ l ≤ 30
  rotate_left
  · rw [decide_eq_false h30]; simp only [Bool.not_false, BIf_true]; exact hk _ (Fr.refl _ _)
  rw [decide_eq_true h30]
  simp only [Bool.not_true, BIf_false]
  have b1 : ∀ x ∈ xs.map (· + 0), -1000000 ≤ x ∧ x < 1000000 := fun x h => by
    obtain ⟨y, hy, rfl⟩ := List.mem_map.1 h
    have := hx y hy; omega
  have b2 : ∀ x ∈ xs.map (· + d), -1000000 ≤ x ∧ x < 1000000 := fun x h => by
    obtain ⟨y, hy, rfl⟩ := List.mem_map.1 h
    have := hx y hy; omega
  refine F8_call (F8_spec hX hl h30.2 hx (by omega) fun p1 c1 w1 S1 N1 f1 => back_slice ?_)
  refine F7_call (out_enq _ S1 rfl h30.1 h30.2 b1 fun p2 c2 w2 o E2 l2 O2 N2 f2 => back_sb ?_)
  have f02 := f1.trans f2 fun _ h => h.elim
  rw [wrap_i64 (by omega) (by omega)]
  refine F8_call (F8_spec (hX.fr0 f02) hl h30.2 hx hd fun p3 c3 w3 S3 N3 f3 => back_slice ?_)
  refine F7_call (out_enq _ S3 rfl h30.1 h30.2 b2 fun p4 c4 w4 o' E4 l4 O4 N4 f4 => back_sb ?_)
  simp only [BIf_true]
  have f24 := f3.trans f4 fun _ h => h.elim
  have o2b : ∀ x ∈ o, -1000000 ≤ x ∧ x < 1000000 := fun x h => b1 x (E2.1.mem_iff.1 h)
  refine F11_call (F11_spec (O2.fr f24 fun _ _ h => h).ints l2.symm (by omega) o2b hd fun p5 c5 w5 O5 N5 f5 => back_slice ?_)
  refine F10_call (F10_spec O5.ints (O4.fr f5 fun _ _ h => h).ints (by simp [l2]) l4.symm (by simp; omega) fun w6 f6 => back_bool ?_)
  have e : o.map (· + d) = o' := by
    refine Ext.det (V := xs.map (· + d)) ?_ E4
    have := E2.shift d
    simpa using this
  rw [decide_eq_true e]
  exact hk _ (((f02.trans f24 fun _ h => h.elim).trans f5 fun _ h => h.elim).trans f6 fun _ h => h.elim)
theorem shorts_of {w : World} {a : Option Addr} {len cap : Nat} {zs : List Int} (h : IsRow .i16 w a len cap zs) : Shorts w a (zs.take len) ∧ len = (zs.take len).length ∧ Small (zs.take len) := by
  rcases h with ⟨rfl, rfl, rfl, rfl⟩ | ⟨x, rfl, h1, h2, h3, h4, h5⟩
  · exact ⟨fun i x hx => by simp at hx, rfl, fun x hx => by simp at hx⟩
  · refine ⟨fun i y hy => ⟨x, rfl, ?_⟩, by simp; omega, fun y hy => wf_i16 (h5 y (List.mem_of_mem_take hy))⟩
    have hi : i < (zs.take len).length := (List.getElem?_eq_some_iff.1 hy).1
    simp only [List.length_take] at hi
    rw [h4 i (by omega)]
    rw [List.getElem?_take, if_pos (by omega)] at hy
    rw [List.getD_eq_getElem?_getD, hy]; rfl

/-- Entries of a literal list of steps. -/
structure Ent where
  op : Int
  items : List Int
  ip : Option Addr
  ic : Nat
def ecells : List Ent → List Value
  | [] => []
  | e :: l => .int .i64 e.op :: .slice e.ip e.items.length e.ic :: ecells l
end Go.Proofs.Ytlbeelgfpbkdbaa.E
