/-
  skSays: a step's answer is right.
-/
import Derived.Test.YtfokodpnoiilbaaSD
namespace Go.Proofs.Ytfokodpnoiilbaa.E
open Go
set_option linter.unusedSimpArgs false
set_option linter.unusedVariables false
set_option maxRecDepth 100000
set_option maxHeartbeats 8000000

def sOp (op : Int) : List Itm → Itm → List Itm := if op = 1 then putI else if op = 4 then delI else getI
theorem sOp_len (op : Int) (l : List Itm) (x : Itm) : (sOp op l x).length ≤ l.length + 1 := by
  unfold sOp
  split
  · exact len_put l x
  · split
    · exact len_del' l x
    · exact len_get l x
theorem sOp_so (op : Int) {l : List Itm} (so : SoI l) (x : Itm) : SoI (sOp op l x) := by
  unfold sOp
  split
  · exact so.put x
  · split
    · exact so.del x
    · exact so
theorem runS_so (op : Int) : ∀ (xs : List Itm) {l : List Itm}, SoI l → SoI (runS (sOp op) l xs)
  | [], _, so => so
  | x :: xs, l, so => runS_so op xs (sOp_so op so x)
theorem runS_get (xs l : List Itm) : runS getI l xs = l := by
  induction xs with
  | nil => rfl
  | cons x xs ih => exact ih
theorem stepS_op {l : List Itm} {st : Stp} : stepS l st = runS (sOp st.op) l st.items := by
  unfold stepS sOp
  split
  · rfl
  · split
    · rfl
    · rw [runS_get]
theorem stepA_op {l : List Itm} {st : Stp} (h : st.op = 1 ∨ st.op = 2 ∨ st.op = 4) : stepA l st = ansO (runO (sOp st.op) l st.items) := by
  unfold stepA sOp
  rcases h with h | h | h <;> simp [h]
theorem runO_get (s : List Itm → Itm → List Itm) : ∀ (xs l : List Itm) (t : Nat) (x : Itm), xs[t]? = some x → (runO s l xs)[t]? = some (findI x.1 (runS s l (xs.take t)))
  | [], l, t, x, h => by simp at h
  | y :: xs, l, 0, x, h => by simp at h; subst h; rfl
  | y :: xs, l, t + 1, x, h => runO_get s xs (s l y) t x (by simpa using h)
theorem back_sb {f : Option Addr → Nat → Nat → Bool → W} {p : Option Addr} {l c : Nat} {b : Bool} {w : World} (h : f p l c b w) : Back (.tup [(.one .slice), (.one .bool)]) f (.returned (.tuple #[.slice p l c, .bool b])) w := ⟨((p, l, c), b, ()), rfl, h⟩
theorem Sl.cell2 {w : World} {T : TypeId} {p : Option Addr} {xs : List Itm} (h : Sl (ItR T) w p xs) {i : Nat} {x : Itm} (hx : xs[i]? = some x) : ∃ q o, p = some ⟨q, o, none⟩ ∧ w.cell? ⟨q, o + i * 2, none⟩ = some (.int .i64 x.1) ∧ w.cell? ⟨q, o + i * 2 + 1, none⟩ = some (.int .i64 x.2) := by
  obtain ⟨q, o, e, h0, h1⟩ := h.get hx
  exact ⟨q, o, e, h0, h1⟩
theorem Sl.cellb {w : World} {p : Option Addr} {xs : List Bool} (h : Sl BoK w p xs) {i : Nat} {x : Bool} (hx : xs[i]? = some x) : ∃ q o, p = some ⟨q, o, none⟩ ∧ w.cell? ⟨q, o + i, none⟩ = some (.bool x) := by
  obtain ⟨q, o, e, h0⟩ := h.get hx
  have h0 : w.cell? ⟨q, o + i * 1 + 0, none⟩ = some (.bool x) := h0
  rw [Nat.mul_one, Nat.add_zero] at h0
  exact ⟨q, o, e, h0⟩
theorem cell_fr0 {w w' : World} {a : Addr} {v : Value} (h : w.cell? a = some v) (f : Fr (fun _ => False) w w') : w'.cell? a = some v := (f.cell (cell_lt h) id).trans h

section
variable {w : World} {p ip : Option Addr} {c ic n10 : Nat} {l items : List Itm} {op most : Int} {got : Addr}
theorem F17_J3_spec {k : Value → W} {again : Option Addr → Nat → Nat → Addr → Addr → Int → W} {t : Nat} {x : Itm} (hop : op = 1 ∨ op = 2 ∨ op = 4) (hN : Ls w p c l) (so : SoI l) (hl : l.length < 1000000000) (hx : items[t]? = some x) (hil : items.length < 1000000000) (hI : Sl ItK w ip items)
    (b10 : Blk w n10 39 [.int .i64 op, .int .i64 0, .slice ip items.length ic, .int .u64 0, .int .i64 most])
    (hk : ∀ w' p' c', Ls w' p' c' (sOp op l x) → Fr (fun _ => False) w w' → again p' (sOp op l x).length c' ⟨n10, 0, none⟩ got ((t + 1 : Nat) : Int) w') :
    F17_J3 k again p l.length c ⟨n10, 0, none⟩ got ((t : Nat) : Int) false w := by
  have hlt := (List.getElem?_eq_some_iff.1 hx).1
  unfold F17_J3
  rw [BIf_false]
  refine load_int (i := 0) b10 rfl ?_
  obtain ⟨q, o, rfl, h0, h1⟩ := hI.cell2 hx
  by_cases e1 : op = 1
  · subst e1
    rw [show ((1 : Int) == 1) = true from rfl, BIf_true]
    refine drw_intro fun w1 f1 z1 => ?_
    have b11 := b10.fr f1 id
    refine load_slice (i := 2) b11 rfl ?_
    simp only [NN_mk, Int.toNat_natCast, add_mk]
    refine ⟨by omega, LoadT_int.2 ⟨_, cell_fr0 h0 f1, ?_⟩⟩
    refine load_slice (i := 2) b11 rfl ?_
    rw [NN_mk]
    simp only [add_mk]
    refine ⟨by omega, LoadT_int.2 ⟨_, cell_fr0 h1 f1, ?_⟩⟩
    refine F19_call (F19_spec (x := x) (hN.fr0 f1) hl so fun w2 p2 c2 s2 f2 => back_slice ?_)
    have f02 := f1.trans f2 fun _ h => h.elim
    have b12 := b11.fr f2 id
    refine ⟨cell_fr0 h1 f02, chk (i := 2) b12 rfl ⟨cell_fr0 h0 f02, chk (i := 2) b12 rfl ?_⟩⟩
    unfold F17_J4
    refine load_int (i := 0) b12 rfl ?_
    rw [show ((1 : Int) == 4) = false from rfl, BIf_false, add64 (by omega)]
    exact hk w2 p2 c2 s2 f02
  · rw [show (op == 1) = false from beq_eq_false_iff_ne.2 e1, BIf_false]
    unfold F17_J4
    refine load_int (i := 0) b10 rfl ?_
    by_cases e4 : op = 4
    · subst e4
      rw [show ((4 : Int) == 4) = true from rfl, BIf_true]
      refine load_slice (i := 2) b10 rfl ?_
      simp only [NN_mk, Int.toNat_natCast, add_mk]
      refine ⟨by omega, LoadT_int.2 ⟨_, h0, ?_⟩⟩
      refine F20_call (F20_spec (v := x.2) hN (by omega) so fun w2 p2 c2 s2 f2 => back_slice ?_)
      rw [add64 (by omega)]
      exact hk w2 p2 c2 s2 f2
    · rw [show (op == 4) = false from beq_eq_false_iff_ne.2 e4, BIf_false, add64 (by omega)]
      have e : sOp op l x = l := by unfold sOp; rw [if_neg e1, if_neg e4]; rfl
      have := hk w p c (by rw [e]; exact hN) (Fr.refl _ _)
      rw [e] at this
      exact this
theorem F17_L1_spec {k : Value → W} {pi ph : Option Addr} {n11 ci ch : Nat} {m : Int} (hop : op = 1 ∨ op = 2 ∨ op = 4) (hN : Ls w p c l) (so : SoI l) (hl : l.length + items.length < 1000000000) (hI : Sl ItK w ip items)
    (gi : Sl ItK w pi (ansO (runO (sOp op) l items)).items) (gh : Sl BoK w ph (ansO (runO (sOp op) l items)).is)
    (b10 : Blk w n10 39 [.int .i64 op, .int .i64 0, .slice ip items.length ic, .int .u64 0, .int .i64 most]) (b11 : Blk w n11 35 [.slice pi items.length ci, .slice ph items.length ch, .int .u64 m])
    (hk : ∀ w' p' c', Ls w' p' c' (runS (sOp op) l items) → Fr (fun _ => False) w w' → k (.tuple #[.slice p' (runS (sOp op) l items).length c', .bool true]) w') :
    Loop [.slice, .addr, .addr, (.int .i64)] (F17_L1 k) p l.length c ⟨n10, 0, none⟩ ⟨n11, 0, none⟩ 0 w := by
  refine F17_L1_rule (I := fun p' l' c' s' g' i w' => s' = ⟨n10, 0, none⟩ ∧ g' = ⟨n11, 0, none⟩ ∧ ∃ t : Nat, i = ((t : Nat) : Int) ∧ t ≤ items.length ∧ l' = (runS (sOp op) l (items.take t)).length ∧ Ls w' p' c' (runS (sOp op) l (items.take t)) ∧ Fr (fun _ => False) w w')
    (μ := fun p' l' c' s' g' i w' => items.length - i.toNat) ?_ ⟨rfl, rfl, 0, rfl, Nat.zero_le _, rfl, hN, Fr.refl _ _⟩
  rintro p1 _ c1 _ _ _ w1 ⟨rfl, rfl, t, rfl, ht, rfl, hN1, f1⟩
  have b101 := b10.fr f1 id
  have b111 := b11.fr f1 id
  unfold F17_L1
  refine load_slice (i := 2) b101 rfl ?_
  by_cases hlt : t < items.length
  · rw [decide_eq_true (show ((t : Nat) : Int) < ((items.length : Nat) : Int) by omega), BIf_true]
    have hx : items[t]? = some items[t] := List.getElem?_eq_getElem hlt
    generalize hxx : items[t] = x at *
    have hlen1 := runS_len (sOp op) (sOp_len op) (items.take t) l
    rw [List.length_take] at hlen1
    have so1 := runS_so op (items.take t) so
    have hO := runO_get (sOp op) items l t x hx
    generalize hnow : runS (sOp op) l (items.take t) = now at *
    have hi1 : (ansO (runO (sOp op) l items)).items[t]? = some ((findI x.1 now).getD (0, 0)) := by
      show ([] ++ (runO (sOp op) l items).map (·.getD (0, 0)))[t]? = _
      rw [List.nil_append, List.getElem?_map, hO]; rfl
    have hh1 : (ansO (runO (sOp op) l items)).is[t]? = some (findI x.1 now).isSome := by
      show ([] ++ (runO (sOp op) l items).map Option.isSome)[t]? = _
      rw [List.nil_append, List.getElem?_map, hO]; rfl
    obtain ⟨q, o, rfl, h0, h1⟩ := (hI.fr0 f1).cell2 hx
    refine load_slice (i := 2) b101 rfl ?_
    simp only [NN_mk, Int.toNat_natCast, add_mk]
    refine ⟨by omega, LoadT_int.2 ⟨_, h0, ?_⟩⟩
    refine F18_call (F18_spec hN1.1 (by omega) so1 fun w2 f2 => back_ib ?_)
    refine new_intro fun n36 w3 e3 b3 f3 z3 => ?_
    refine store_intro (i := 0) b3 (by simp) rfl fun w4 b4 f4 z4 => ?_
    refine store_intro (i := 1) b4 (by simp) rfl fun w5 b5 f5 z5 => ?_
    have b5' : Blk w5 n36 67 [.int .i64 ((findI x.1 now).getD (0, 0)).1, .int .i64 ((findI x.1 now).getD (0, 0)).2] := b5
    refine drw_intro fun w6 f6 z6 => ?_
    have b6 := b5'.fr f6 id
    have f16 : Fr (fun _ => False) w1 w6 := ((f2.trans (f3.trans (f4.trans f5 fun _ h => .inl h) fun b h => .inr (by have h : b = n36 := h; omega)) fun _ h => h.elim).trans f6 fun _ h => h.elim)
    have f06 := f1.trans f16 fun _ h => h.elim
    have b106 := b101.fr f16 id
    have b116 := b111.fr f16 id
    obtain ⟨qh, oh, rfl, hb⟩ := (gh.fr0 f06).cellb hh1
    obtain ⟨qi, oi, rfl, i0, i1⟩ := (gi.fr0 f06).cell2 hi1
    refine load_slice (i := 1) b116 rfl ?_
    simp only [NN_mk, add_mk]
    refine ⟨by omega, LoadT_bool.2 ⟨_, hb, ?_⟩⟩
    rw [show (!((findI x.1 now).isSome == (findI x.1 now).isSome)) = false by simp, BIf_false]
    have nxt : ∀ w', Fr (fun _ => False) w6 w' → F17_J3 k (fun p' l' c' s' g' i w' => (s' = ⟨n10, 0, none⟩ ∧ g' = ⟨n11, 0, none⟩ ∧ ∃ t : Nat, i = ((t : Nat) : Int) ∧ t ≤ items.length ∧ l' = (runS (sOp op) l (items.take t)).length ∧ Ls w' p' c' (runS (sOp op) l (items.take t)) ∧ Fr (fun _ => False) w w') ∧
        items.length - i.toNat < items.length - ((t : Nat) : Int).toNat) p1 now.length c1 ⟨n10, 0, none⟩ ⟨n11, 0, none⟩ ((t : Nat) : Int) false w' := fun w' f' => by
      refine F17_J3_spec hop ((hN1.fr0 f16).fr0 f') so1 (by omega) hx (by omega) ((hI.fr0 f06).fr0 f') (b106.fr f' id) fun w9 p9 c9 s9 f9 => ?_
      have e : runS (sOp op) l (items.take (t + 1)) = sOp op now x := by rw [take_snoc hx, runS_snoc, hnow]
      refine ⟨⟨rfl, rfl, t + 1, rfl, hlt, by rw [e], by rw [e]; exact s9, (f06.trans f' fun _ h => h.elim).trans f9 fun _ h => h.elim⟩, ?_⟩
      show items.length - ((t + 1 : Nat) : Int).toNat < items.length - ((t : Nat) : Int).toNat
      omega
    refine BIf_intro (fun _ => ?_) fun _ => nxt w6 (Fr.refl _ _)
    refine load_slice (i := 0) b116 rfl ?_
    rw [NN_mk]
    simp only [add_mk]
    refine ⟨by omega, LoadT_int.2 ⟨_, i0, LoadT_int.2 ⟨_, i1, ?_⟩⟩⟩
    refine load_int (i := 0) b6 rfl (load_int (i := 1) b6 rfl ?_)
    refine F34_call (F34_spec fun w7 f7 => back_ii ?_)
    have b117 := b116.fr f7 id
    have b7 := b6.fr f7 id
    refine ⟨cell_fr0 i0 f7, cell_fr0 i1 f7, chk (i := 0) b117 rfl ⟨cell_fr0 hb f7, chk (i := 1) b117 rfl ?_⟩⟩
    refine raws_b (neq37 _ _ _ _ w7) ?_
    refine chk (i := 0) b7 rfl (chk (i := 1) b7 rfl (chk (i := 0) b117 rfl ⟨cell_fr0 hb f7, chk (i := 1) b117 rfl ?_⟩))
    exact nxt w7 f7
  · rw [decide_eq_false (show ¬ ((t : Nat) : Int) < ((items.length : Nat) : Int) by omega), BIf_false]
    have : t = items.length := by omega
    subst this
    rw [List.take_length] at hN1 ⊢
    exact hk w1 p1 c1 hN1 f1
end
section
variable {w : World} {p ip pi ph : Option Addr} {c ic ci ch : Nat} {l : List Itm} {st : Stp}
/-- skSays. -/
theorem F17_spec {k : Value → W} (hop : st.op = 1 ∨ st.op = 2 ∨ st.op = 4 ∨ st.op = 5 ∨ st.op = 6) (h5 : st.op = 5 → st.items ≠ []) (hm : 0 ≤ st.most ∧ st.most < 4000000000) (hN : Ls w p c l) (so : SoI l) (hl : l.length + st.items.length < 1000000000) (hI : Sl ItK w ip st.items)
    (gi : Sl ItK w pi (stepA l st).items) (gh : Sl BoK w ph (stepA l st).is)
    (hk : ∀ w' p' c', Ls w' p' c' (stepS l st) → Fr (fun _ => False) w w' → k (.tuple #[.slice p' (stepS l st).length c', .bool true]) w') :
    F17 k p l.length c st.op 0 ip st.items.length ic 0 st.most pi (stepA l st).items.length ci ph (stepA l st).is.length ch ((stepA l st).n : Nat) w := by
  unfold F17
  refine new_intro fun n10 w1 e1 b1 f1 z1 => new_intro fun n11 w2 e2 b2 f2 z2 => ?_
  have f02 := f1.trans f2 fun _ h => h.elim
  have b10 := b1.fr f2 id
  refine load_int (i := 0) b10 rfl ?_
  have hN2 := hN.fr0 f02
  have many : st.op = 1 ∨ st.op = 2 ∨ st.op = 4 → F17_J1 k p l.length c ⟨n10, 0, none⟩ ⟨n11, 0, none⟩ st.op true w2 := fun ho => by
    have hA := stepA_op (l := l) ho
    have hla : (stepA l st).items.length = st.items.length := by rw [hA]; show ([] ++ (runO _ _ _).map _).length = _; rw [List.nil_append, List.length_map, runO_length]
    have hlb : (stepA l st).is.length = st.items.length := by rw [hA]; show ([] ++ (runO _ _ _).map _).length = _; rw [List.nil_append, List.length_map, runO_length]
    rw [hla, hlb] at b2
    unfold F17_J1
    rw [BIf_true]
    refine load_slice (i := 0) b2 rfl (load_slice (i := 2) b10 rfl ?_)
    rw [show (((st.items.length : Nat) : Int) != ((st.items.length : Nat) : Int)) = false by simp, BIf_false]
    refine load_slice (i := 1) b2 rfl (load_slice (i := 2) b10 rfl ?_)
    rw [show (((st.items.length : Nat) : Int) != ((st.items.length : Nat) : Int)) = false by simp]
    unfold F17_J2
    rw [BIf_false]
    refine F17_L1_spec ho hN2 so hl (hI.fr0 f02) (by rw [← hA]; exact gi.fr0 f02) (by rw [← hA]; exact gh.fr0 f02) b10 b2 fun w3 p3 c3 s3 f3 => ?_
    rw [← stepS_op] at s3 ⊢
    exact hk w3 p3 c3 s3 (f02.trans f3 fun _ h => h.elim)
  by_cases e1 : st.op = 1
  · rw [show (st.op == 1) = true by rw [e1]; rfl, BIf_true]
    exact many (.inl e1)
  rw [show (st.op == 1) = false from beq_eq_false_iff_ne.2 e1, BIf_false]
  by_cases e2' : st.op = 2
  · rw [show (st.op == 2) = true by rw [e2']; rfl, BIf_true]
    exact many (.inr (.inl e2'))
  rw [show (st.op == 2) = false from beq_eq_false_iff_ne.2 e2', BIf_false]
  by_cases e4 : st.op = 4
  · rw [show (st.op == 4) = true by rw [e4]; rfl]
    exact many (.inr (.inr e4))
  rw [show (st.op == 4) = false from beq_eq_false_iff_ne.2 e4]
  have hS : stepS l st = l := by unfold stepS; rw [if_neg e1, if_neg e4]
  unfold F17_J1
  rw [BIf_false, show (st.op == 3) = false from beq_eq_false_iff_ne.2 (by omega), BIf_false]
  by_cases e5 : st.op = 5
  · rw [show (st.op == 5) = true by rw [e5]; rfl, BIf_true]
    have hA : stepA l st = ansR ((hiI (st.items.headD (0, 0)).1 l).take st.most.toNat) := by unfold stepA; rw [if_neg e1, if_neg e2', if_neg e4, if_pos e5]
    refine drw_intro fun w3 f3 z3 => ?_
    have f03 := f02.trans f3 fun _ h => h.elim
    have b13 := b10.fr f3 id
    have b23 := b2.fr f3 id
    refine load_slice (i := 0) b23 rfl (load_slice (i := 2) b13 rfl ?_)
    obtain ⟨x, xs, hxs⟩ : ∃ x xs, st.items = x :: xs := by
      cases h : st.items with
      | nil => exact absurd h (h5 e5)
      | cons x xs => exact ⟨x, xs, rfl⟩
    have hx : st.items[0]? = some x := by rw [hxs]; rfl
    have hhd : st.items.headD (0, 0) = x := by rw [hxs]; rfl
    have hlen : 0 < st.items.length := by rw [hxs]; simp
    obtain ⟨q, o, rfl, h0, h1⟩ := (hI.fr0 f03).cell2 hx
    have h0 : w3.cell? ⟨q, o, none⟩ = some (.int .i64 x.1) := by rw [Nat.zero_mul, Nat.add_zero] at h0; exact h0
    rw [NN_mk]
    refine ⟨by omega, LoadT_int.2 ⟨x.1, by rw [show ((0 : Int).toNat * 2) = 0 from rfl, add_mk, Nat.add_zero]; exact h0, ?_⟩⟩
    refine load_int (i := 4) b13 rfl ?_
    have hN3 := hN.fr0 f03
    refine F35_call (F35_spec hN3.1 (by omega) so (back_int ?_))
    refine chk (i := 4) b13 rfl (chk (i := 2) b13 rfl (chk (i := 0) b23 rfl ?_))
    have hsp := lo_hiI so x.1
    have hle : (loI x.1 l).length ≤ l.length := List.length_filter_le _ _
    have hmost : st.most = ((st.most.toNat : Nat) : Int) := by omega
    rw [hmost]
    refine F37_call (F37_spec hN3 (by omega) hle (by omega) fun p4 c4 s4 => back_slice ?_)
    refine ⟨by rw [show ((0 : Int).toNat * 2) = 0 from rfl, add_mk, Nat.add_zero]; exact h0, ?_⟩
    refine chk (i := 2) b13 rfl (chk (i := 0) b23 rfl ?_)
    rw [drop_split hsp] at s4 ⊢
    have hia : (stepA l st).items = (hiI x.1 l).take st.most.toNat := by rw [hA, hhd]; rfl
    have gi3 := gi.fr0 f03
    rw [hia] at gi3 ⊢
    have hl4 : ((hiI x.1 l).take st.most.toNat).length < 4000000000 := by
      rw [List.length_take]; omega
    refine F36_call (F36_spec gi3 s4 hl4 fun w5 f5 => back_bool ?_)
    have b15 := b13.fr f5 id
    refine chk (i := 4) b15 (by rw [← hmost]; rfl) ⟨by rw [show ((0 : Int).toNat * 2) = 0 from rfl, add_mk, Nat.add_zero]; exact cell_fr0 h0 f5, chk (i := 2) b15 rfl ?_⟩
    have := hk w5 p c (by rw [hS]; exact (hN.fr0 f03).fr0 f5) (f03.trans f5 fun _ h => h.elim)
    rw [hS] at this
    exact this
  rw [show (st.op == 5) = false from beq_eq_false_iff_ne.2 e5, BIf_false]
  have e6 : st.op = 6 := by omega
  rw [show (st.op == 6) = true by rw [e6]; rfl, BIf_true]
  have hA : stepA l st = ⟨[], [], l.length⟩ := by unfold stepA; rw [if_neg e1, if_neg e2', if_neg e4, if_neg e5]
  refine drw_intro fun w3 f3 z3 => ?_
  refine load_int (i := 2) (b2.fr f3 id) rfl ?_
  rw [Bind_iff]
  have hw : (((stepA l st).n : Nat) : Int) == IntKind.wrap .u64 ((l.length : Nat) : Int) := by
    rw [wrap_u64 (by omega) (by omega), hA]; simp
  rw [hw]
  have := hk w3 p c (by rw [hS]; exact hN2.fr0 f3) (f02.trans f3 fun _ h => h.elim)
  rw [hS] at this
  exact this
end
end Go.Proofs.Ytfokodpnoiilbaa.E
