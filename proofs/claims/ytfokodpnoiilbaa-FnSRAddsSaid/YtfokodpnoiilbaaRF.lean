/-
  Range trees: the statements' own lists of entries (RTCompare, rtAt, RTGet, RTDrop, RTPut).
-/
import Derived.Test.YtfokodpnoiilbaaRE
import Derived.Test.YtfokodpnoiilbaaFnsE
namespace Go.Proofs.Ytfokodpnoiilbaa.E
open Go
set_option linter.unusedSimpArgs false
set_option linter.unusedVariables false
set_option maxRecDepth 100000
set_option maxHeartbeats 8000000

theorem sl64_get {w : World} {p : Option Addr} {l : List Int} (h : Sl In64K w p l) {i : Nat} {x : Int} (hx : l[i]? = some x) : ∃ q o, p = some ⟨q, o, none⟩ ∧ w.cell? ⟨q, o + i, none⟩ = some (.int .i64 x) := by
  obtain ⟨q, o, rfl, g0⟩ := h.get hx
  refine ⟨q, o, rfl, ?_⟩
  have : w.cell? ⟨q, o + i * 1 + 0, none⟩ = some (.int .i64 x) := g0
  rw [show o + i * 1 + 0 = o + i by omega] at this; exact this
section
variable {w : World} {k : Value → W}
/-- RTCompare. -/
theorem F59_spec {a b : List Int} {p q : Option Addr} {c d : Nat} (ha : Sl In64K w p a) (hb : Sl In64K w q b) (hl : a.length = b.length) (hll : a.length < 1000) (hk : ∀ w', Fr (fun _ => False) w w' → k (.int .i64 (cmpI a b)) w') : F59 k p a.length c q b.length d w := by
  unfold F59
  refine F59_L1_rule (I := fun ap al ac bp bl' bc i w' => ap = p ∧ al = a.length ∧ bp = q ∧ bl' = b.length ∧ ∃ t : Nat, i = ((t : Nat) : Int) ∧ t ≤ a.length ∧ cmpI a b = cmpI (a.drop t) (b.drop t) ∧ Fr (fun _ => False) w w')
    (μ := fun ap al ac bp bl' bc i w' => a.length - i.toNat) ?_ ⟨rfl, rfl, rfl, rfl, 0, rfl, Nat.zero_le _, rfl, Fr.refl _ _⟩
  rintro ap al ac bp bl' bc i w1 ⟨e1, e2, e3, e4, t, rfl, ht, hc, f1⟩
  unfold F59_L1
  rw [e1, e2, e3, e4]
  by_cases hlt : t < a.length
  · rw [decide_eq_true (show ((t : Nat) : Int) < ((a.length : Nat) : Int) by omega), BIf_true]
    have hx : a[t]? = some a[t] := List.getElem?_eq_getElem hlt
    have hy : b[t]? = some (b[t]'(by omega)) := List.getElem?_eq_getElem (by omega)
    have da : a.drop t = a[t] :: a.drop (t + 1) := List.drop_eq_getElem_cons hlt
    have db : b.drop t = (b[t]'(by omega)) :: b.drop (t + 1) := List.drop_eq_getElem_cons (by omega)
    generalize a[t] = x at hx da
    generalize b[t]'(by omega) = y at hy db
    rw [da, db, cmpI_cons] at hc
    refine drw_intro fun w2 f2 z2 => ?_
    have f02 := f1.trans f2 fun _ h => h.elim
    obtain ⟨qa, oa, epa, ca⟩ := sl64_get (ha.fr0 f02) hx
    obtain ⟨qb, ob, epb, cb⟩ := sl64_get (hb.fr0 f02) hy
    rw [epa, epb]
    simp only [NN_mk, Int.toNat_natCast, add_mk]
    refine Req_iff.2 ⟨by omega, LoadT_int.2 ⟨_, ca, Req_iff.2 ⟨by omega, LoadT_int.2 ⟨_, cb, ?_⟩⟩⟩⟩
    by_cases h1 : x < y
    · rw [decide_eq_true h1, BIf_true]
      rw [if_pos h1] at hc
      rw [hc] at hk
      exact hk w2 f02
    · rw [decide_eq_false h1, BIf_false]
      rw [if_neg h1] at hc
      refine drw_intro fun w3 f3 z3 => ?_
      have ca' := cellF0 ca f3
      have cb' := cellF0 cb f3
      have f03 := f02.trans f3 fun _ h => h.elim
      refine Req_iff.2 ⟨by omega, LoadT_int.2 ⟨_, ca', Req_iff.2 ⟨by omega, LoadT_int.2 ⟨_, cb', ?_⟩⟩⟩⟩
      by_cases h2 : x > y
      · rw [decide_eq_true h2, BIf_true]
        rw [if_pos h2] at hc
        rw [hc] at hk
        exact hk w3 f03
      · rw [decide_eq_false h2, BIf_false, addI_i64 (by omega) (by omega)]
        rw [if_neg h2] at hc
        refine ⟨⟨by trivial, by trivial, by trivial, by trivial, t + 1, by omega, hlt, hc, f03⟩, ?_⟩
        show a.length - (((t : Nat) : Int) + 1).toNat < a.length - ((t : Nat) : Int).toNat
        omega
  · rw [decide_eq_false (show ¬ ((t : Nat) : Int) < ((a.length : Nat) : Int) by omega), BIf_false]
    have : t = a.length := by omega
    subst this
    rw [List.drop_length] at hc
    rw [hc] at hk
    exact hk w1 f1
variable {n : Nat} {l : List PD} {pt : List Int} {p q : Option Addr} {c d : Nat}
/-- rtAt. -/
theorem F64_spec (hS : Sl (DoK 85) w p l) (hA : Sl In64K w q pt) (hlen : ∀ x ∈ l, x.1.length = n) (hat : pt.length = n) (hn : n < 1000) (hl : l.length < 1000000) (hk : ∀ w', Fr (fun _ => False) w w' → k (.int .i64 ((rtA pt l : Nat) : Int)) w') : F64 k p l.length c q pt.length d w := by
  unfold F64
  refine F64_L1_rule (I := fun ap al ac bp bl' bc i w' => ap = p ∧ al = l.length ∧ bp = q ∧ bl' = pt.length ∧ ∃ t : Nat, i = ((t : Nat) : Int) ∧ t ≤ l.length ∧ rtA pt l = t + rtA pt (l.drop t) ∧ Fr (fun _ => False) w w')
    (μ := fun ap al ac bp bl' bc i w' => l.length - i.toNat) ?_ ⟨rfl, rfl, rfl, rfl, 0, rfl, Nat.zero_le _, by simp, Fr.refl _ _⟩
  rintro ap al ac bp bl' bc i w1 ⟨e1, e2, e3, e4, t, rfl, ht, hc, f1⟩
  unfold F64_L1
  rw [e1, e2, e3, e4]
  by_cases hlt : t < l.length
  · rw [decide_eq_true (show ((t : Nat) : Int) < ((l.length : Nat) : Int) by omega), BIf_true]
    have hx : l[t]? = some l[t] := List.getElem?_eq_getElem hlt
    have dl : l.drop t = l[t] :: l.drop (t + 1) := List.drop_eq_getElem_cons hlt
    have hm : l[t] ∈ l := List.getElem_mem hlt
    generalize l[t] = x at hx dl hm
    rw [dl, rtA_cons] at hc
    obtain ⟨qb, o, ep, xp, xc, c0, c1, hI⟩ := (hS.fr0 f1).get hx
    rw [ep]
    simp only [NN_mk, Int.toNat_natCast, add_mk]
    refine Req_iff.2 ⟨by omega, LoadT_slice.2 ⟨_, _, _, c0, ?_⟩⟩
    have hxl := hlen x hm
    refine F59_call (F59_spec hI (hA.fr0 f1) (by omega) (by omega) fun w2 f2 => back_int ?_)
    have f02 := f1.trans f2 fun _ h => h.elim
    by_cases h1 : cmpI x.1 pt < 0
    · rw [decide_eq_true h1, BIf_true, addI_i64 (by omega) (by omega)]
      rw [if_pos h1] at hc
      refine ⟨⟨by trivial, by trivial, by trivial, by trivial, t + 1, by omega, hlt, by omega, f02⟩, ?_⟩
      show l.length - (((t : Nat) : Int) + 1).toNat < l.length - ((t : Nat) : Int).toNat
      omega
    · rw [decide_eq_false h1, BIf_false]
      rw [if_neg h1, Nat.add_zero] at hc
      rw [hc] at hk
      exact hk w2 f02
  · rw [decide_eq_false (show ¬ ((t : Nat) : Int) < ((l.length : Nat) : Int) by omega), BIf_false]
    have : t = l.length := by omega
    subst this
    rw [List.drop_length] at hc
    have hc : rtA pt l = l.length := hc
    rw [hc] at hk
    exact hk w1 f1
theorem back_dob {f : Option Addr → Nat → Nat → Int → Bool → W} {p : Option Addr} {l c : Nat} {x : Int} {b : Bool} (h : f p l c x b w) : Back (.tup [(.agg [.slice, (.int .i64)]), (.one .bool)]) f (.returned (.tuple #[.agg #[.slice p l c, .int .i64 x], .bool b])) w := ⟨((p, l, c), x, b, ()), rfl, h⟩
/-- RTGet. -/
theorem F58_spec (hS : Sl (DoK 85) w p l) (hA : Sl In64K w q pt) (hlen : ∀ x ∈ l, x.1.length = n) (hat : pt.length = n) (hn : n < 1000) (hl : l.length < 1000000)
    (hk0 : atP pt l = none → ∀ w', Fr (fun _ => False) w w' → k (.tuple #[.agg #[.slice none 0 0, .int .i64 0], .bool false]) w')
    (hk1 : ∀ y, atP pt l = some y → ∀ w' p' c', Sl In64K w' p' y.1 → Fr (fun _ => False) w w' → k (.tuple #[.agg #[.slice p' y.1.length c', .int .i64 y.2], .bool true]) w') : F58 k p l.length c q pt.length d w := by
  unfold F58
  refine new_intro fun n3 w1 e1 b1 f1 z1 => ?_
  refine F64_call (F64_spec (hS.fr0 f1) (hA.fr0 f1) hlen hat hn hl fun w2 f2 => back_int ?_)
  have b2 := b1.fr f2 id
  have f02 := f1.trans f2 fun _ h => h.elim
  have hle := rtA_le pt l
  have no : ∀ {w3 : World}, Blk w3 n3 85 [.slice none 0 0, .int .i64 0] → Fr (fun _ => False) w w3 → atP pt l = none → F58_J1 k p l.length c ⟨n3, 0, none⟩ ((rtA pt l : Nat) : Int) true w3 := fun {w3} b3 f3 hn => by
    unfold F58_J1
    rw [BIf_true]
    simp only [add_mk, Nat.zero_add]
    refine store_intro (i := 0) b3 (by simp) rfl fun w4 b4 f4 z4 => ?_
    refine store_intro (i := 1) b4 (by simp) rfl fun w5 b5 f5 z5 => ?_
    have b5 : Blk w5 n3 85 [.slice none 0 0, .int .i64 0] := b5
    refine load_slice (i := 0) b5 rfl (load_int (i := 1) b5 rfl ?_)
    exact hk0 hn w5 (f3.trans (f4.trans f5 fun _ h => .inl h) fun b hb => .inr (by have hb : b = n3 := hb; omega))
  by_cases he : rtA pt l = l.length
  · rw [show (((rtA pt l : Nat) : Int) == ((l.length : Nat) : Int)) = true by rw [beq_iff_eq]; omega, BIf_true]
    exact no b2 f02 (by unfold atP; rw [he, List.getElem?_eq_none (Nat.le_refl _)])
  · rw [show (((rtA pt l : Nat) : Int) == ((l.length : Nat) : Int)) = false by rw [beq_eq_false_iff_ne]; omega, BIf_false]
    have hlt : rtA pt l < l.length := by omega
    have hx : l[rtA pt l]? = some l[rtA pt l] := List.getElem?_eq_getElem hlt
    have hm : l[rtA pt l] ∈ l := List.getElem_mem hlt
    generalize l[rtA pt l] = x at hx hm
    obtain ⟨qb, o, ep, xp, xc, c0, c1, hI⟩ := (hS.fr0 f02).get hx
    rw [ep]
    simp only [NN_mk, Int.toNat_natCast, add_mk]
    refine Req_iff.2 ⟨by omega, LoadT_slice.2 ⟨_, _, _, c0, ?_⟩⟩
    have hxl := hlen x hm
    refine F59_call (F59_spec hI (hA.fr0 f02) (by omega) (by omega) fun w3 f3 => back_int ?_)
    have f03 := f02.trans f3 fun _ h => h.elim
    by_cases h0 : cmpI x.1 pt = 0
    · rw [show (cmpI x.1 pt != 0) = false by rw [h0]; rfl]
      unfold F58_J1
      rw [BIf_false]
      simp only [NN_mk, Int.toNat_natCast, add_mk, Nat.zero_add]
      refine Req_iff.2 ⟨by omega, LoadT_slice.2 ⟨_, _, _, cellF0 c0 f3, LoadT_int.2 ⟨_, cellF0 c1 f3, ?_⟩⟩⟩
      have b3 := b2.fr f3 id
      refine store_intro (i := 0) b3 (by simp) rfl fun w4 b4 f4 z4 => ?_
      refine store_intro (i := 1) b4 (by simp) rfl fun w5 b5 f5 z5 => ?_
      have b5 : Blk w5 n3 85 [.slice xp x.1.length xc, .int .i64 x.2] := b5
      refine load_slice (i := 0) b5 rfl (load_int (i := 1) b5 rfl ?_)
      have T : Tys (fun b => b = n3) w3 [85] := Tys.one b3
      have f35 : Fr (fun b => b = n3) w3 w5 := f4.trans f5 fun _ h => .inl h
      exact hk1 x (by unfold atP; rw [hx]; exact if_pos h0) w5 xp xc ((hI.fr0 f3).fr f35 T (by decide)) (f03.trans f35 fun b hb => .inr (by have hb : b = n3 := hb; omega))
    · rw [show (cmpI x.1 pt != 0) = true by rw [bne_iff_ne]; exact h0]
      have := no (b2.fr f3 id) f03 (by unfold atP; rw [hx]; exact if_neg h0)
      rw [ep] at this
      exact this
/-- RTDrop. -/
theorem F60_spec (hS : Lp w p c l) (hA : Sl In64K w q pt) (hlen : ∀ x ∈ l, x.1.length = n) (hat : pt.length = n) (hn : n < 1000) (hl : l.length < 1000000)
    (hk : ∀ w' p' c', Lp w' p' c' (dropP pt l) → Fr (fun _ => False) w w' → k (.slice p' (dropP pt l).length c') w') : F60 k p l.length c q pt.length d w := by
  unfold F60
  have hle := rtA_le pt l
  refine F58_call (F58_spec hS.1 hA hlen hat hn hl (fun h0 w1 f1 => back_dob ?_) fun y hy w1 p1 c1 hy1 f1 => back_dob ?_)
  · refine new_intro fun n6 w2 e2 b2 f2 z2 => ?_
    refine store_intro (i := 0) b2 (by simp) rfl fun w3 b3 f3 z3 => ?_
    refine store_intro (i := 1) b3 (by simp) rfl fun w4 b4 f4 z4 => ?_
    rw [show (!false) = true from rfl, BIf_true]
    have e : dropP pt l = l := by unfold dropP; rw [h0]; rfl
    rw [e] at hk
    have f14 : Fr (fun _ => False) w1 w4 := by
      have : Fr (fun b => b = n6) w1 w4 := ((f2.mono (S' := fun b => b = n6) fun _ h => h.elim).trans f3 fun _ h => .inl h).trans f4 fun _ h => .inl h
      exact this.mono fun b h => .inr (by have h : b = n6 := h; omega)
    have f04 := f1.trans f14 fun _ h => h.elim
    exact hk w4 p c (hS.fr0 f04) f04
  · refine new_intro fun n6 w2 e2 b2 f2 z2 => ?_
    refine store_intro (i := 0) b2 (by simp) rfl fun w3 b3 f3 z3 => ?_
    refine store_intro (i := 1) b3 (by simp) rfl fun w4 b4 f4 z4 => ?_
    rw [show (!true) = false from rfl, BIf_false]
    have f14 : Fr (fun _ => False) w1 w4 := by
      have : Fr (fun b => b = n6) w1 w4 := ((f2.mono (S' := fun b => b = n6) fun _ h => h.elim).trans f3 fun _ h => .inl h).trans f4 fun _ h => .inl h
      exact this.mono fun b h => .inr (by have h : b = n6 := h; omega)
    have f04 := f1.trans f14 fun _ h => h.elim
    have e : dropP pt l = l.take (rtA pt l) ++ l.drop (rtA pt l + 1) := by unfold dropP; rw [hy]; rfl
    have hlt : rtA pt l < l.length := by
      rcases Nat.lt_or_ge (rtA pt l) l.length with h | h
      · exact h
      · unfold atP at hy
        rw [List.getElem?_eq_none h] at hy; cases hy
    refine F64_call (F64_spec (hS.1.fr0 f04) (hA.fr0 f04) hlen hat hn hl fun w5 f5 => back_int ?_)
    have f05 := f04.trans f5 fun _ h => h.elim
    obtain ⟨i, g1, g2, g3, g4⟩ := inf85
    refine build_none und50 g1 fun w6 f6 b6 z6 => ?_
    have o6 : SlO (DoK 85) w6 (some ⟨w5.heap.size, 0, none⟩) 0 0 [] := SlO.made (K := DoK 85) b6 rfl (by decide) rfl (Rows.nil _ _ _ _)
    have f06 := f05.trans f6 fun _ h => h.elim
    have hc := hS.2
    rw [Req_iff, Int.toNat_natCast]
    refine ⟨⟨by omega, by omega⟩, ?_⟩
    have hs1 : Sl (DoK 85) w6 (sliceA p 0 c 2) (l.take (rtA pt l)) := by
      have := ((hS.1.fr0 f06).drop (n := 0) (c := c) hc).take (rtA pt l)
      rw [List.drop_zero] at this
      exact this
    refine app_lp o6 hs1 (by rw [Nat.sub_zero, List.length_take, Nat.min_eq_left hle]) (by omega) fun p7 c7 w7 f7 o7 hp7 => ?_
    have hp7' : ∀ b, bl p7 b → w5.heap.size ≤ b := fun b hb => by
      rcases hp7 b hb with ⟨y, hy, e⟩ | h
      · cases hy; exact Nat.le_of_eq e
      · have := f6.size; omega
    have z5 := f05.size
    have f57 : Fr (fun _ => False) w5 w7 := f6.trans f7 fun b ⟨y, hy, e⟩ => .inr (by cases hy; exact Nat.le_of_eq e)
    have f07 := f05.trans f57 fun _ h => h.elim
    rw [addI_i64 (by omega) (by omega), Req_iff, show ((rtA pt l : Nat) : Int) + 1 = ((rtA pt l + 1 : Nat) : Int) by omega, Int.toNat_natCast]
    refine ⟨⟨by omega, by omega⟩, ?_⟩
    have hs7 : Sl (DoK 85) w7 (sliceA p (rtA pt l + 1) c 2) (l.drop (rtA pt l + 1)) := (hS.1.fr0 f07).drop (n := rtA pt l + 1) (c := c) hc
    refine app_lp o7 hs7 (by rw [List.length_drop]) (by omega) fun p8 c8 w8 f8 o8 hp8 => ?_
    have hlen8 := o8.len
    rw [List.nil_append, ← e] at o8 hlen8
    rw [hlen8]
    exact hk w8 p8 c8 o8.lp (f07.trans f8 fun b hb => .inr (Nat.le_trans z5 (hp7' b hb)))
/-- RTPut. -/
theorem F31_spec {x : PD} (hS : Lp w p c l) (hA : Sl In64K w q x.1) (hs : SrtP n l) (hat : x.1.length = n) (hn : n < 1000) (hl : l.length < 1000000)
    (hk : ∀ w' p' c', Lp w' p' c' (insP l x) → Fr (fun _ => False) w w' → k (.slice p' (insP l x).length c') w') : F31 k p l.length c q x.1.length d x.2 w := by
  unfold F31
  refine new_intro fun n4 w1 e1 b1 f1 z1 => ?_
  refine load_slice (i := 0) b1 rfl ?_
  have hdl := dropP_len x.1 l
  refine F60_call (F60_spec (hS.fr0 f1) (hA.fr0 f1) hs.1 hat hn hl fun w2 p2 c2 s2 f2 => back_slice ?_)
  have b2 := b1.fr f2 id
  have f02 := f1.trans f2 fun _ h => h.elim
  refine load_slice (i := 0) b2 rfl ?_
  have hi := drop_ins hat hs
  have hlen2 : ∀ y ∈ dropP x.1 l, y.1.length = n := fun y hy => by
    unfold dropP at hy
    split at hy
    · rcases List.mem_append.1 hy with h | h
      · exact hs.1 y (List.mem_of_mem_take h)
      · exact hs.1 y (List.mem_of_mem_drop h)
    · exact hs.1 y hy
  generalize dropP x.1 l = l2 at *
  have hle := rtA_le x.1 l2
  refine F64_call (F64_spec s2.1 (hA.fr0 f02) hlen2 hat hn (by omega) fun w3 f3 => back_int ?_)
  have b3 := b2.fr f3 id
  have f03 := f02.trans f3 fun _ h => h.elim
  have f13 := f2.trans f3 fun _ h => h.elim
  generalize rtA x.1 l2 = a at *
  obtain ⟨i, g1, g2, g3, g4⟩ := inf85
  refine build_none und50 g1 fun w4 f4 b4 z4 => ?_
  have o4 : SlO (DoK 85) w4 (some ⟨w3.heap.size, 0, none⟩) 0 0 [] := SlO.made (K := DoK 85) b4 rfl (by decide) rfl (Rows.nil _ _ _ _)
  have hc := s2.2
  have f24 := f3.trans f4 fun _ h => h.elim
  rw [Req_iff, Int.toNat_natCast]
  refine ⟨⟨by omega, by omega⟩, ?_⟩
  have hs1 : Sl (DoK 85) w4 (sliceA p2 0 c2 2) (l2.take a) := by
    have := ((s2.1.fr0 f24).drop (n := 0) (c := c2) hc).take a
    rw [List.drop_zero] at this
    exact this
  refine app_lp o4 hs1 (by rw [Nat.sub_zero, List.length_take, Nat.min_eq_left hle]) (by omega) fun p5 c5 w5 f5 o5 hp5 => ?_
  refine drw_intro fun w6 f6 z6 => ?_
  have hp5' : ∀ b, bl p5 b → w3.heap.size ≤ b := fun b hb => by
    rcases hp5 b hb with ⟨y, hy, e⟩ | h
    · cases hy; exact Nat.le_of_eq e
    · have := f4.size; omega
  have f35 : Fr (fun _ => False) w3 w5 := f4.trans f5 fun b ⟨y, hy, e⟩ => .inr (by cases hy; exact Nat.le_of_eq e)
  have f36 := f35.trans f6 fun _ h => h.elim
  have b6 := b3.fr f36 id
  refine load_slice (i := 0) b6 rfl (load_int (i := 1) b6 rfl ?_)
  rw [Req_iff]
  refine ⟨⟨by omega, by omega⟩, ?_⟩
  refine build_intro und50 g1 g2 (by omega) (by omega) (fill85 q x.1.length d x.2 i g3) fun w7 f7 b7 z7 => ?_
  have f37 := f36.trans f7 fun _ h => h.elim
  have o7 := (o5.fr0 f6).fr0 f7
  have s7 : Sl (DoK 85) w7 (some ⟨w6.heap.size, 0, none⟩) [x] := Sl.of_blk (K := DoK 85) b7 (Rows.one ⟨q, d, rfl, rfl, hA.fr0 (f03.trans f37 fun _ h => h.elim)⟩)
  refine app_lp o7 s7 rfl (by omega) fun p8 c8 w8 f8 o8 hp8 => ?_
  have f38 : Fr (fun _ => False) w3 w8 := f37.trans f8 fun b hb => .inr (hp5' b hb)
  have b8 := b3.fr f38 id
  refine chk (i := 0) b8 rfl (chk (i := 1) b8 rfl ?_)
  have hs8 : Sl (DoK 85) w8 (sliceA p2 a c2 2) (l2.drop a) := (s2.1.fr0 (f3.trans f38 fun _ h => h.elim)).drop (n := a) (c := c2) hc
  have hp8' : ∀ b, bl p8 b → w3.heap.size ≤ b := fun b hb => by
    rcases hp8 b hb with h | h
    · exact hp5' b h
    · have := f37.size; omega
  refine app_lp o8 hs8 (by rw [List.length_drop]) (by omega) fun p9 c9 w9 f9 o9 hp9 => ?_
  have f39 : Fr (fun _ => False) w3 w9 := f38.trans f9 fun b hb => .inr (hp8' b hb)
  have b9 := b3.fr f39 id
  refine chk (i := 0) b9 rfl (chk (i := 1) b9 rfl ?_)
  have e : ([] ++ l2.take a ++ [x] ++ l2.drop a) = insP l x := by rw [hi]; simp
  have hlen9 := o9.len
  rw [e] at o9 hlen9
  rw [hlen9]
  exact hk w9 p9 c9 o9.lp (f03.trans f39 fun _ h => h.elim)
end
end Go.Proofs.Ytfokodpnoiilbaa.E
