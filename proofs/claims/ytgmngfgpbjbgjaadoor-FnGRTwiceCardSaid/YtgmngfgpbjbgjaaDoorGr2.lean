/-
  The runs over edges, the neighbours, and the small functions over lists of numbers.
-/
import Derived.Test.YtgmngfgpbjbgjaaDoorGr
namespace Go.Proofs.YtgmngfgpbjbgjaaDoor.E
open Go
set_option linter.unusedSimpArgs false
set_option linter.unusedVariables false
set_option maxRecDepth 100000
set_option maxHeartbeats 2000000

theorem Own.blk {w : World} {e : TypeId} {p : Option Addr} {l c : Nat} {vs : List Value} (h : Own w e p l c vs) {b : Nat} (hb : bl p b) : ∃ us, Blk w b e us := by
  obtain ⟨a, rfl, rfl⟩ := hb
  rcases h.2 with ⟨h, _⟩ | ⟨q, rest, h, hb, _⟩
  · cases h
  · cases h; exact ⟨_, hb⟩
def ints (l : List Int) : List Value := l.map (.int .i64)
@[simp] theorem ints_append (l m : List Int) : ints (l ++ m) = ints l ++ ints m := List.map_append
@[simp] theorem ints_length (l : List Int) : (ints l).length = l.length := List.length_map ..
theorem ints_get (l : List Int) (i : Nat) : (ints l)[i]? = l[i]?.map (.int .i64) := List.getElem?_map

/-- A list of numbers that can be read at p. -/
def Ints (w : World) (p : Option Addr) (xs : List Int) : Prop := ∀ i x, xs[i]? = some x → ∃ a, p = some a ∧ w.cell? (a.add i) = some (.int .i64 x)
theorem Ints.fr0 {w w' : World} {p : Option Addr} {xs : List Int} (h : Ints w p xs) (f : Fr (fun _ => False) w w') : Ints w' p xs := fun i x hx => by
  obtain ⟨a, h1, h2⟩ := h i x hx
  exact ⟨a, h1, by rw [f.cell (cell_lt h2) id]; exact h2⟩
theorem Own.ints {w : World} {p : Option Addr} {l c : Nat} {xs : List Int} (h : Own w 3 p l c (ints xs)) : Ints w p xs := fun i x hx => by
  have hl : xs.length = l := by simpa using h.1
  have hi : i < xs.length := (List.getElem?_eq_some_iff.1 hx).1
  obtain ⟨q, rest, rfl, _, _, _⟩ := h.get (by omega)
  exact ⟨_, rfl, by rw [add_mk, Nat.zero_add, h.cell (by omega), ints_get, hx]; rfl⟩
/-- A list of edges that can be read at p. -/
def Edges (w : World) (p : Option Addr) (es : List (Int × Int)) : Prop :=
  ∀ i q, es[i]? = some q → ∃ a, p = some a ∧ w.cell? ((a.add (i * 2)).add 0) = some (.int .i64 q.1) ∧ w.cell? ((a.add (i * 2)).add 1) = some (.int .i64 q.2)
theorem Edges.fr0 {w w' : World} {p : Option Addr} {xs : List (Int × Int)} (h : Edges w p xs) (f : Fr (fun _ => False) w w') : Edges w' p xs := fun i x hx => by
  obtain ⟨a, h1, h2, h3⟩ := h i x hx
  exact ⟨a, h1, by rw [f.cell (cell_lt h2) id]; exact h2, by rw [f.cell (cell_lt h3) id]; exact h3⟩

theorem take_snoc {α : Type} {l : List α} {i : Nat} {x : α} (h : l[i]? = some x) : l.take (i + 1) = l.take i ++ [x] := by
  rw [List.take_add_one, h]; rfl
theorem back_two {f : Option Addr → Option Addr → Nat → Nat → W} {p q : Option Addr} {l c : Nat} {w : World} (h : f p q l c w) : Back (.tup [(.one .ptr), (.one .slice)]) f (.returned (.tuple #[.pointer p, .slice q l c])) w := ⟨(p, (q, l, c), ()), rfl, h⟩
theorem back_run {f : Option Addr → Nat → Nat → Int → Int → W} {q : Option Addr} {l c : Nat} {x y : Int} {w : World} (h : f q l c x y w) : Back (.tup [(.one .slice), (.one (.int .i64)), (.one (.int .i64))]) f (.returned (.tuple #[.slice q l c, .int .i64 x, .int .i64 y])) w := ⟨((q, l, c), x, y, ()), rfl, h⟩
theorem back_adj {f : Option Addr → Nat → Nat → Int → W} {q : Option Addr} {l c : Nat} {x : Int} {w : World} (h : f q l c x w) : Back (.tup [(.one .slice), (.one (.int .i64))]) f (.returned (.tuple #[.slice q l c, .int .i64 x])) w := ⟨((q, l, c), x, ()), rfl, h⟩
theorem back_deg {f : Int → Value → W} {x : Int} {v : Value} {w : World} (h : f x v w) : Back (.tup [(.one (.int .i64)), (.one .any)]) f (.returned (.tuple #[.int .i64 x, v])) w := ⟨(x, v, ()), rfl, h⟩
theorem back_nbs {f : Option Addr → Nat → Nat → Value → W} {q : Option Addr} {l c : Nat} {v : Value} {w : World} (h : f q l c v w) : Back (.tup [(.one .slice), (.one .any)]) f (.returned (.tuple #[.slice q l c, v])) w := ⟨((q, l, c), v, ()), rfl, h⟩

theorem F12_spec {k : Value → W} {w : World} {base l c : Nat} {p : Option Addr} {a0 a1 a2 : Addr} {es : List (Int × Int)} (hE : Edges w p es) (hl : l = es.length) (hs : Sent w base a0 a1 a2) (hlen : es.length ≤ 1000)
    (hk : ∀ gb ep ec w', GRw w' w.heap.size gb (grun G0 es).1 → Own w' 3 ep l ec (ints (grun G0 es).2) → Fr (fun _ => False) w w' → k (.tuple #[.pointer (some ⟨gb, 0, none⟩), .slice ep l ec]) w') : F12 k p l c w := by
  unfold F12
  refine F18_call (F18_spec fun gb w1 g1 f1 => back_ptr ?_)
  have hsb : Sent w w.heap.size a0 a1 a2 := hs.up hs.lb (Nat.le_refl _)
  refine F12_L1_rule (fun g ep el ec sp sl sc x6 x7 w' => g = some ⟨gb, 0, none⟩ ∧ sp = p ∧ sl = l ∧ x6 = (l : Nat) ∧ ∃ i : Nat, x7 = i ∧ i ≤ l ∧ el = i ∧ GRw w' w.heap.size gb (grun G0 (es.take i)).1 ∧ Own w' 3 ep i ec (ints (grun G0 (es.take i)).2) ∧ (∀ b, bl ep b → w.heap.size ≤ b) ∧ Fr (fun _ => False) w w')
    (fun _ _ _ _ _ _ _ x6 x7 _ => (x6 - x7).toNat) ?_ ⟨rfl, rfl, rfl, rfl, 0, rfl, Nat.zero_le _, rfl, g1, Own.nil _ _, fun b hb => (by obtain ⟨a, h, _⟩ := hb; cases h), f1⟩
  rintro g ep el ec sp sl sc x6 x7 w2 ⟨rfl, rfl, rfl, rfl, i, rfl, hi, hel, g2, o2, hb2, f2⟩
  obtain rfl := hel.symm
  unfold F12_L1
  by_cases hil : i < sl
  rotate_left
  · have : i = sl := by omega
    subst this
    rw [decide_eq_false (by omega)]
    rw [hl, List.take_length] at g2 o2
    simp only [BIf_false]
    rw [← hl] at o2
    exact hk _ _ _ _ g2 o2 f2
  rw [decide_eq_true (by omega)]
  have hget : es[i]? = some (es[i]'(by omega)) := List.getElem?_eq_getElem _
  generalize es[i]'(by omega) = q at hget
  obtain ⟨a, rfl, c1, c2⟩ := hE.fr0 f2 i q hget
  simp only [BIf_true, NN_mk, Int.toNat_natCast]
  refine ⟨by omega, LoadT_int.2 ⟨_, c1, LoadT_int.2 ⟨_, c2, ?_⟩⟩⟩
  refine new_intro fun n w3 hn b3 f3 z3 => ?_
  refine store_intro b3 (by simp) rfl fun w4 b4 f4 z4 => ?_
  refine store_intro b4 (by simp) rfl fun w5 b5 f5 z5 => ?_
  refine load_int b5 rfl (load_int b5 rfl ?_)
  have f25 : Fr (fun _ => False) w2 w5 := (f3.trans f4 fun x e => .inr (by have : x = n := e; omega)).trans f5 fun x e => .inr (by have : x = n := e; omega)
  have g5 := g2.fr0 f25
  have o5 := o2.fr f25 fun _ _ h => h
  have f05 := f2.trans f25 fun _ h => h.elim
  have s5 := hsb.fr0 f05
  have hlt := run_len (es.take i) G0
  have htl : (es.take i).length = i := by simp; omega
  rw [htl] at hlt
  have hlt1 : (grun G0 (es.take i)).1.vs.length ≤ 2 * i := by simpa [G0] using hlt.1
  have hlt2 : (grun G0 (es.take i)).1.e ≤ i := by simpa [G0] using hlt.2
  refine F19_call (F19_spec (x := q.1) (y := q.2) g5 s5 (inv_run _ inv0) (by omega) (by omega) fun w6 g6 f6 => back_any ?_)
  have s6 := s5.fr f6 fun _ h => h.1
  refine F16_call (F16_spec s6 (step_err _ _ _) (back_int ?_))
  have o6 := o5.fr f6 fun b hb h => by obtain ⟨us, hu⟩ := o5.blk hb; exact h.2 us hu
  obtain ⟨ii, hi1, hi2, hi3, hi4, hi5⟩ := inf3
  refine append1 (P := Tryd.prog) und24 hi1 hi2 hi3 rfl (by omega) o6 rfl rfl (by omega) fun p7 c7 w7 f7 o7 hp7 hs7 => ?_
  have g7 := g6.fr f7 fun b hb => by obtain ⟨us, hu⟩ := o6.blk hb; exact .inr ⟨3, us, hu, by decide⟩
  have f06 : Fr (fun _ => False) w w6 := f05.trans f6 fun b h => .inr h.1
  have e : addI .i64 (i : Nat) 1 = ((i + 1 : Nat) : Int) := by rw [addI_i64 (by omega) (by omega)]; simp
  rw [e]
  refine ⟨⟨(by trivial), (by trivial), (by trivial), (by trivial), i + 1, rfl, by omega, (by trivial), ?_, ?_, ?_, ?_⟩, by omega⟩
  · rw [take_snoc hget, grun_snoc]; exact g7
  · rw [take_snoc hget, grun_snoc, ints_append]; exact o7
  · intro b hb
    rcases hp7 b hb with h | h
    · exact hb2 b h
    · exact Nat.le_trans f06.size h
  · exact f06.trans f7 fun b hb => .inr (hb2 b hb)

theorem F6_spec {k : Value → W} {w : World} {base l c : Nat} {p : Option Addr} {a0 a1 a2 : Addr} {es : List (Int × Int)} (hE : Edges w p es) (hl : l = es.length) (hs : Sent w base a0 a1 a2) (hlen : es.length ≤ 1000)
    (hk : ∀ ep ec w', Own w' 3 ep l ec (ints (grun G0 es).2) → Fr (fun _ => False) w w' → k (.tuple #[.slice ep l ec, .int .i64 ((grun G0 es).1.vs.length : Nat), .int .i64 ((grun G0 es).1.e : Nat)]) w') : F6 k p l c w := by
  unfold F6
  refine F12_call (F12_spec hE hl hs hlen fun gb ep ec w1 g1 o1 f1 => back_two ?_)
  obtain ⟨bo, blk, g⟩ := g1
  refine F13_call (load_int g.head rfl (back_int ?_))
  refine F14_call (load_int g.head rfl (back_int ?_))
  exact hk ep ec w1 o1 f1

/-- Degree. -/
theorem F20_spec {k : Value → W} {w : World} {base base' gb : Nat} {a0 a1 a2 : Addr} {s : G} {v : Int} (h : GRw w base gb s) (hs : Sent w base' a0 a1 a2)
    (h1 : v ∈ s.vs → k (.tuple #[.int .i64 ((s.nb v).length : Nat), .nilIface]) w) (h2 : v ∉ s.vs → ∀ w', Fr (fun _ => False) w w' → k (.tuple #[.int .i64 0, errV a0 a1 a2 1]) w') : F20 k (some ⟨gb, 0, none⟩) (kI v) w := by
  obtain ⟨bo, blk, g⟩ := h
  unfold F20
  refine load_map g.head rfl ?_
  refine look_mm g.outer v (fun hn => ?_) (fun u hu => ?_)
  · rw [getL_map] at hn
    simp only [Bool.not_false, BIf_true]
    refine drw_intro fun w1 f1 z1 => ?_
    refine LoadT_any.2 ⟨_, (hs.fr0 f1).c0, ?_⟩
    exact h2 (fun hv => by rw [if_pos hv] at hn; cases hn) w1 f1
  · rw [getL_map] at hu
    by_cases hv : v ∈ s.vs
    · rw [if_pos hv] at hu; cases hu
      refine ⟨_, rfl, ?_⟩
      refine len_map und53 (g.inner v hv) ?_
      rw [List.length_map]
      exact h1 hv
    · rw [if_neg hv] at hu; cases hu

theorem nodup_le : ∀ (n : Nat) (ts : List Nat), ts.Nodup → (∀ i ∈ ts, i < n) → ts.length ≤ n
  | 0, ts, _, h => by
    cases ts with
    | nil => simp
    | cons a l => exact absurd (h a (List.mem_cons_self ..)) (by omega)
  | n + 1, ts, hn, h => by
    by_cases hm : n ∈ ts
    · have := nodup_le n (ts.erase n) (hn.erase n) fun i hi => by
        have h1 := (hn.mem_erase_iff).1 hi
        have := h i h1.2
        have := h1.1
        omega
      rw [List.length_erase_of_mem hm] at this
      omega
    · have := nodup_le n ts hn fun i hi => by
        have h1 := h i hi
        have : i ≠ n := fun e => hm (e ▸ hi)
        omega
      omega
theorem perm_all {ts : List Nat} {n : Nat} (hn : ts.Nodup) (h : ∀ i ∈ ts, i < n) (ha : ∀ i, i < n → i ∈ ts) : ts.Perm (List.range n) := by
  rw [List.perm_iff_count]
  intro a
  rw [hn.count, List.nodup_range.count]
  have : a ∈ ts ↔ a ∈ List.range n := by rw [List.mem_range]; exact ⟨h a, ha a⟩
  simp only [this]
theorem map_getD (l : List Int) : (List.range l.length).map (fun j => l.getD j 0) = l := by
  apply List.ext_getElem
  · simp
  · intro i h1 h2; simp [List.getD_eq_getElem?_getD, List.getElem?_eq_getElem h2]

theorem IfaceNil_iface {t : TypeId} {v : Value} {f : Bool → W} : IfaceNil (.iface t v) f = f false := rfl
theorem IfaceNil_nil {f : Bool → W} : IfaceNil .nilIface f = f true := rfl
theorem errV1 {a0 a1 a2 : Addr} : errV a0 a1 a2 1 = .iface 58 (.pointer (some a0)) := rfl
/-- Adj. -/
theorem F15_spec {k : Value → W} {w : World} {base base' gb : Nat} {a0 a1 a2 : Addr} {s : G} {v : Int} (h : GRw w base gb s) (hs : Sent w base' a0 a1 a2) (hl : (s.nb v).length < 100000)
    (h1 : v ∈ s.vs → ∀ (xs : List Int) q m c w', xs.Perm (s.nb v) → m = xs.length → Own w' 20 q m c (xs.map kI) → Fr (fun _ => False) w w' → k (.tuple #[.slice q m c, .nilIface]) w')
    (h2 : v ∉ s.vs → ∀ w', Fr (fun _ => False) w w' → k (.tuple #[.slice none 0 0, errV a0 a1 a2 1]) w') : F15 k (some ⟨gb, 0, none⟩) (kI v) w := by
  unfold F15
  refine F20_call (F20_spec h hs (fun hv => back_deg ?_) (fun hv w1 f1 => back_deg ?_))
  rotate_left
  · rw [errV1, IfaceNil_iface]
    simp only [Bool.not_false, BIf_true]
    refine drw_intro fun w2 f2 z2 => ?_
    have f12 := f1.trans f2 fun _ h => h.elim
    exact LoadT_any.2 ⟨_, (hs.fr0 f12).c0, h2 hv w2 f12⟩
  rw [IfaceNil_nil]
  simp only [Bool.not_true, BIf_false]
  obtain ⟨ii, hi1, hi2, hi3, hi4⟩ := inf20
  generalize hn : (s.nb v).length = n at *
  refine make_intro (P := Tryd.prog) n n und39 hi1 hi2 hi3 rfl (by omega) (by omega) (Nat.le_refl _) fun w1 f1 o1 b1 z1 => ?_
  obtain ⟨bo, blk, g⟩ := h
  have g1 := g.fr f1 fun _ h => h.elim
  have gv : getL v (s.vs.map fun v => (v, Value.map (some (blk v)))) = some (.map (some (blk v))) := by rw [getL_map, if_pos hv]
  refine load_map g1.head rfl (look_m g1.outer gv ?_)
  refine range_intro und53 (g1.inner v hv) fun r w2 hr it2 f2 z2 => ?_
  have o2 := o1.fr f2 fun _ _ h => h
  have hq0 : w.heap.size ≤ w.heap.size := Nat.le_refl _
  generalize hq : w.heap.size = q at *
  generalize hL : (s.nb v).map (fun x => (x, Value.agg #[])) = L at *
  have hLn : L.length = n := by rw [← hL, List.length_map, hn]
  have hLg : ∀ i (hi : i < L.length), kI L[i].1 = kI ((s.nb v).getD i 0) := fun i hi => by
    subst hL
    have : i < (s.nb v).length := by simpa using hi
    simp [List.getD_eq_getElem?_getD, List.getElem?_eq_getElem this]
  have f02 := f1.trans f2 fun _ h => h.elim
  have hqr : q ≠ r := by omega
  refine F15_L1_rule (fun ap al ac x v14 w' => ap = some ⟨q, 0, none⟩ ∧ al = n ∧ ac = n ∧ v14 = .pointer (some ⟨r, 0, none⟩) ∧ ∃ ts : List Nat, x = (ts.length : Nat) ∧ It w' r (blk v) kI L ts ∧ Own w' 20 (some ⟨q, 0, none⟩) n n (ts.map (fun j => kI ((s.nb v).getD j 0)) ++ List.replicate (n - ts.length) .nilIface) ∧ Fr (fun _ => False) w w')
    (fun _ _ _ x _ _ => n - x.toNat) ?_ ⟨rfl, rfl, rfl, rfl, [], rfl, it2, by simpa using o2, f02⟩
  rintro ap al ac x v14 w3 ⟨rfl, hal, hac, rfl, ts, rfl, it3, o3, f3⟩
  obtain rfl := hal.symm
  obtain rfl := hac.symm
  unfold F15_L1
  have htl := nodup_le L.length ts it3.nd it3.le
  refine next_intro it3 (fun hall => ?_) fun i hi w4 hnot it4 f4 z4 => ?_
  · refine ⟨(false, ()), ⟨_, rfl, rfl⟩, ?_⟩
    show k _ w3
    have hp := perm_all it3.nd it3.le hall
    have hln : ts.length = L.length := by simpa using hp.length_eq
    refine h1 hv (ts.map fun j => (s.nb v).getD j 0) _ _ _ _ ?_ (by rw [List.length_map]; omega) ?_ f3
    · have := hp.map fun j => (s.nb v).getD j 0
      rw [hLn, ← hn, map_getD] at this
      exact this
    · rw [hln, hLn, Nat.sub_self] at o3
      simp only [List.replicate_zero, List.append_nil] at o3
      rw [List.map_map]; exact o3
  · refine ⟨(true, ()), ⟨_, rfl, rfl⟩, ?_⟩
    show RawT _ _ _ _ w4
    refine entry_intro it4 hi ?_
    refine ⟨(kI L[i].1, ()), ⟨_, rfl, rfl⟩, ?_⟩
    have htl4 := nodup_le L.length (ts ++ [i]) it4.nd it4.le
    rw [List.length_append, List.length_singleton] at htl4
    have o4 := o3.fr f4 fun b hb e => by obtain ⟨a, h, rfl⟩ := hb; cases h; exact hqr e
    refine (show (0 ≤ ((ts.length : Nat) : Int) ∧ ((ts.length : Nat) : Int) < ((n : Nat) : Int)) ∧ (oneC (kI L[i].1) = true ∧ Store1 ((⟨q, 0, none⟩ : Addr).add ((ts.length : Nat) : Int).toNat) (kI L[i].1) _ w4) from ⟨by omega, rfl, ?_⟩)
    simp only [Int.toNat_natCast]
    rw [add_mk, Nat.zero_add]
    have hc4 := o4.cell (show ts.length < n by omega)
    have hex : ∃ old, w4.cell? ⟨q, ts.length, none⟩ = some old := ⟨_, hc4.trans (List.getElem?_eq_getElem (by simp; omega))⟩
    refine Store1_iff.2 ⟨rfl, hex, o4.frozen _, ?_⟩
    have f5 : Fr (fun x => x = q) w4 (w4.setCell ⟨q, ts.length, none⟩ (kI L[i].1)) := Fr.setCell _ _ _ rfl
    have o5 := o4.set (show ts.length < n by omega) (kI L[i].1)
    generalize w4.setCell ⟨q, ts.length, none⟩ (kI L[i].1) = w5 at *
    have hb4 : ∃ us, Blk w4 q 20 us := o4.blk ⟨_, rfl, rfl⟩
    obtain ⟨us, hb4⟩ := hb4
    have e : addI .i64 (ts.length : Nat) 1 = (((ts ++ [i]).length : Nat) : Int) := by rw [addI_i64 (by omega) (by omega)]; simp
    rw [e]
    refine ⟨⟨(by trivial), (by trivial), (by trivial), (by trivial), ts ++ [i], rfl, it4.fr f5 (fun e => it4.map.not_blk hb4 e) (fun e => hqr e.symm), ?_, ?_⟩, ?_⟩
    · have e2 : n - ts.length = (n - (ts ++ [i]).length) + 1 := by simp; omega
      rw [e2, List.replicate_succ, List.set_append_right _ _ (by simp)] at o5
      simp only [List.length_map, Nat.sub_self, List.set_cons_zero] at o5
      rw [hLg i hi] at o5
      rw [List.map_append, List.append_assoc]
      exact o5
    · exact (f3.trans f4 fun x e => .inr (by have h1 : x = r := e; have := f1.size; omega)).trans f5 fun x e => .inr (by have h1 : x = q := e; have := hq; omega)
    · simp; omega
end Go.Proofs.YtgmngfgpbjbgjaaDoor.E
