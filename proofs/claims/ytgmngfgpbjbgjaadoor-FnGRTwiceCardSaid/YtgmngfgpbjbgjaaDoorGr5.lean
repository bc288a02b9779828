/-
  The two laws of graphs, walked.
-/
import Derived.Test.YtgmngfgpbjbgjaaDoorGr4
namespace Go.Proofs.YtgmngfgpbjbgjaaDoor.E
open Go
set_option linter.unusedSimpArgs false
set_option linter.unusedVariables false
set_option maxRecDepth 100000
set_option maxHeartbeats 2000000

theorem le_sum (f : Int → Nat) (a : Int) : ∀ l : List Int, a ∈ l → f a ≤ (l.map f).sum
  | x :: l, h => by
    simp only [List.map_cons, List.sum_cons]
    rcases List.mem_cons.1 h with e | h
    · subst e; omega
    · have := le_sum f a l h; omega
theorem nb_len {s : G} (h : GInv s) (v : Int) : (s.nb v).length ≤ 2 * s.e := by
  by_cases hv : v ∈ s.vs
  · have := le_sum (fun v => (s.nb v).length) v s.vs hv
    rw [h.sum] at this; exact this
  · have hn : s.nb v = [] := List.eq_nil_iff_forall_not_mem.2 fun b hb => hv (h.on v b hb)
    rw [hn]; exact Nat.zero_le _

/-- The sum over the vertices below v. -/
def sumB (s : G) (f : Int → Nat) (v : Int) : Nat := ((s.vs.filter fun x => decide (x < v)).map f).sum

theorem F3_spec {k : Value → W} {w : World} {base l c : Nat} {p : Option Addr} {a0 a1 a2 : Addr} {es : List (Int × Int)} (hE : Edges w p es) (hl : l = es.length) (hs : Sent w base a0 a1 a2)
    (hk : ∀ w', Fr (fun _ => False) w w' → k (.bool true) w') : F3 k p l c w := by
  subst hl
  unfold F3
  refine BIf_intro (fun _ => hk w (Fr.refl _ _)) fun hb => ?_
  have hb := of_decide_eq_false hb
  refine F5_call (F5_spec hE rfl (by omega) (fun w1 f1 => back_bool ?_) fun w1 f1 hall h0 h20 => back_bool ?_)
  · exact hk w1 f1
  simp only [Bool.not_true, BIf_false]
  refine F6_call (F6_spec (hE.fr0 f1) rfl (hs.fr0 f1) (by omega) fun ep ec w2 o2 f2 => back_run ?_)
  have hinv := inv_run es inv0
  have hlen := run_len es G0
  have hmem : ∀ x ∈ (grun G0 es).1.vs, 0 ≤ x ∧ x ≤ 12 := fun x hx => by
    rcases run_mem es hx with h | ⟨q, hq, h⟩
    · simp [G0] at h
    · have := hall q hq
      obtain ⟨h1, h2, h3, h4⟩ := this
      rcases h with h | h <;> omega
  have hF7 : ∀ {k : Value → W} {w' : World} {v : Int}, Fr (fun _ => False) w w' →
      (∀ (xs : List Int) q m c' w'', m = xs.length → (v ∈ (grun G0 es).1.vs → xs.Perm ((grun G0 es).1.nb v)) → Own w'' 3 q m c' (ints xs) → Fr (fun _ => False) w' w'' → k (.tuple #[.slice q m c', .int .i64 (if v ∈ (grun G0 es).1.vs then 0 else 1)]) w'') → F7 k p es.length c v w' := fun f hk => by
    refine F7_spec (hE.fr0 f) rfl (hs.fr0 f) (by omega) ?_ hk
    have h1 := nb_len hinv ‹Int›
    have h2 : (grun G0 es).1.e ≤ G0.e + es.length := hlen.2
    have h3 : G0.e = 0 := rfl
    omega
  have hee : (grun G0 es).1.e ≤ 20 := by
    have h2 : (grun G0 es).1.e ≤ G0.e + es.length := hlen.2
    have h3 : G0.e = 0 := rfl
    omega
  have hvv : (grun G0 es).1.vs.length ≤ 40 := by
    have h2 := hlen.1
    have h3 : G0.vs.length = 0 := rfl
    omega
  generalize (grun G0 es).1 = s at *
  have f02 := f1.trans f2 fun _ h => h.elim
  have hsumle : ∀ v, sumB s (fun x => (s.nb x).length) v ≤ 2 * s.e := fun v => by
    rw [← hinv.sum]
    unfold sumB
    generalize s.vs = l
    induction l with
    | nil => simp
    | cons a l ih =>
      by_cases ha : a < v
      · rw [List.filter_cons_of_pos (by simpa using ha)]; simp only [List.map_cons, List.sum_cons]; omega
      · rw [List.filter_cons_of_neg (by simpa using ha)]; simp only [List.map_cons, List.sum_cons]; omega
  have hcntle : ∀ v, sumB s (fun _ => 1) v ≤ s.vs.length := fun v => by
    unfold sumB; rw [sum_const]; exact List.length_filter_le ..
  refine F3_L1_rule (fun lp ll lc many e sum there v w' => lp = p ∧ ll = es.length ∧ lc = c ∧ many = (s.vs.length : Nat) ∧ e = (s.e : Nat) ∧ ∃ n : Nat, v = (n : Int) ∧ n ≤ 13 ∧ sum = (sumB s (fun x => (s.nb x).length) n : Nat) ∧ there = (sumB s (fun _ => 1) n : Nat) ∧ Fr (fun _ => False) w w')
    (fun _ _ _ _ _ _ _ v _ => 13 - v.toNat) ?_ ⟨rfl, rfl, rfl, rfl, rfl, 0, rfl, by omega, ?_, ?_, f02⟩
  rotate_left
  · unfold sumB; rw [filter_zero (v := ((0 : Nat) : Int)) fun x hx => by have := (hmem x hx).1; omega]; rfl
  · unfold sumB; rw [filter_zero (v := ((0 : Nat) : Int)) fun x hx => by have := (hmem x hx).1; omega]; rfl
  rintro lp ll lc many e sum there v w3 ⟨hlp, hll, hlc, rfl, rfl, n, rfl, hn, rfl, rfl, f3⟩
  obtain rfl := hlp.symm; obtain rfl := hll.symm; obtain rfl := hlc.symm
  unfold F3_L1
  have hS := sum_lt (fun x => (s.nb x).length) n s.vs hinv.nd
  have hC := sum_lt (fun _ => 1) n s.vs hinv.nd
  have hSn := hsumle n
  have hCn := hcntle n
  by_cases h13 : n = 13
  · subst h13
    rw [decide_eq_false (by omega)]
    simp only [BIf_false]
    refine F9_call (F9_spec (hs.fr0 f3) fun w4 f4 => back_bool ?_)
    have eS : sumB s (fun x => (s.nb x).length) ((13 : Nat) : Int) = 2 * s.e := by
      unfold sumB; rw [filter_all fun x hx => by have := (hmem x hx).2; omega]; exact hinv.sum
    have eC : sumB s (fun _ => 1) ((13 : Nat) : Int) = s.vs.length := by
      unfold sumB; rw [filter_all fun x hx => by have := (hmem x hx).2; omega]; exact sum_const _
    rw [eS, eC, mulI_i64 (by omega) (by omega)]
    have e1 : ((((2 * s.e : Nat) : Int) == 2 * (s.e : Int)) = true) := by simp
    have e2 : ((((s.vs.length : Nat) : Int) == ((s.vs.length : Nat) : Int)) = true) := by simp
    rw [e1, e2]
    exact hk w4 (f3.trans f4 fun _ h => h.elim)
  rw [decide_eq_true (by omega)]
  simp only [BIf_true]
  have en : addI .i64 (n : Nat) 1 = ((n + 1 : Nat) : Int) := by rw [addI_i64 (by omega) (by omega)]; simp
  have ecast : ((n + 1 : Nat) : Int) = (n : Int) + 1 := by simp
  refine F7_call (hF7 f3 fun xs q m c' w4 hm hp o4 f4 => back_adj ?_)
  subst hm
  have f04 := f3.trans f4 fun _ h => h.elim
  by_cases hv : (n : Int) ∈ s.vs
  rotate_left
  · rw [if_neg hv]
    rw [show ((1 : Int) != 0) = true from rfl]
    simp only [BIf_true]
    rw [en]
    refine ⟨⟨(by trivial), (by trivial), (by trivial), (by trivial), (by trivial), n + 1, rfl, by omega, ?_, ?_, f04⟩, by omega⟩
    · rw [if_neg hv] at hS; unfold sumB; rw [ecast, hS]; rfl
    · rw [if_neg hv] at hC; unfold sumB; rw [ecast, hC]; rfl
  rw [if_pos hv] at hS hC ⊢
  rw [show ((0 : Int) != 0) = false from rfl]
  simp only [BIf_false]
  have hp := hp hv
  have hxl := perm_len hp
  have hnl := nb_len hinv n
  rw [addI_i64 (by omega) (by omega), addI_i64 (by omega) (by omega)]
  refine bind_intro ?_
  refine F3_L2_rule (fun lp ll lc many e sum there v sp sl sc x23 x24 w' => lp = p ∧ ll = es.length ∧ lc = c ∧ many = (s.vs.length : Nat) ∧ e = (s.e : Nat) ∧ v = (n : Int) ∧ sum = (sumB s (fun x => (s.nb x).length) n : Nat) + (xs.length : Nat) ∧ there = (sumB s (fun _ => 1) n : Nat) + 1 ∧ sp = q ∧ sl = xs.length ∧ x23 = (xs.length : Nat) ∧ Fr (fun _ => False) w4 w' ∧ ∃ j : Nat, x24 = (j : Int) ∧ j ≤ xs.length)
    (fun _ _ _ _ _ _ _ _ _ _ _ x23 x24 _ => (x23 - x24).toNat) ?_ ⟨rfl, rfl, rfl, rfl, rfl, rfl, rfl, rfl, rfl, rfl, rfl, Fr.refl _ _, 0, rfl, Nat.zero_le _⟩
  rintro lp ll lc many e sum there v sp sl sc x23 x24 w5 ⟨hlp, hll, hlc, rfl, rfl, rfl, rfl, rfl, hsp, hsl, rfl, f5, j, rfl, hj⟩
  obtain rfl := hlp.symm; obtain rfl := hll.symm; obtain rfl := hlc.symm; obtain rfl := hsp.symm; obtain rfl := hsl.symm
  have f05 := f04.trans f5 fun _ h => h.elim
  unfold F3_L2
  by_cases hjl : j < xs.length
  rotate_left
  · have : j = xs.length := by omega
    subst this
    rw [decide_eq_false (by omega)]
    simp only [BIf_false]
    rw [en]
    refine ⟨⟨(by trivial), (by trivial), (by trivial), (by trivial), (by trivial), n + 1, rfl, by omega, ?_, ?_, f05⟩, by omega⟩
    · unfold sumB; rw [ecast, hS, hxl]; simp
    · unfold sumB; rw [ecast, hC]; simp
  rw [decide_eq_true (by omega)]
  have hget : xs[j]? = some (xs[j]'(by omega)) := List.getElem?_eq_getElem _
  have hmx : xs[j]'(by omega) ∈ xs := List.getElem_mem _
  generalize xs[j]'(by omega) = x at hget hmx
  have hxn : x ∈ s.nb n := hp.mem_iff.1 hmx
  have hnx := hinv.sym _ _ hxn
  have hxv := hinv.on _ _ hnx
  have hne : x ≠ (n : Int) := fun e => hinv.irr n (e ▸ hxn)
  obtain ⟨a, rfl, hc⟩ := (o4.fr f5 fun _ _ h => h).ints j x hget
  simp only [BIf_true, NN_mk, Int.toNat_natCast]
  refine ⟨by omega, LoadT_int.2 ⟨_, hc, ?_⟩⟩
  refine F7_call (hF7 f05 fun ys q2 m2 c2 w6 hm2 hp2 o6 f6 => back_adj ?_)
  rw [if_pos hxv]
  rw [show ((0 : Int) != 0) = false from rfl]
  simp only [BIf_false]
  have hp2 := hp2 hxv
  have hnl2 := nb_len hinv x
  refine F8_call (F8_spec o6.ints hm2 (by rw [perm_len hp2]; omega) (back_bool ?_))
  rw [decide_eq_true (hp2.mem_iff.2 hnx)]
  simp only [Bool.not_true, BIf_false]
  rw [show (x == (n : Int)) = false by simpa using hne]
  simp only [BIf_false]
  have ej : addI .i64 (j : Nat) 1 = ((j + 1 : Nat) : Int) := by rw [addI_i64 (by omega) (by omega)]; simp
  rw [ej]
  exact ⟨⟨(by trivial), (by trivial), (by trivial), (by trivial), (by trivial), (by trivial), (by trivial), (by trivial), (by trivial), (by trivial), (by trivial), f5.trans f6 fun _ h => h.elim, j + 1, rfl, by omega⟩, by omega⟩

def swp (q : Int × Int) : Int × Int := (q.2, q.1)
theorem F4_spec {k : Value → W} {w : World} {base l c : Nat} {p : Option Addr} {a0 a1 a2 : Addr} {es : List (Int × Int)} (hE : Edges w p es) (hl : l = es.length) (hs : Sent w base a0 a1 a2)
    (hk : ∀ w', Fr (fun _ => False) w w' → k (.bool true) w') : F4 k p l c w := by
  subst hl
  unfold F4
  refine BIf_intro (fun _ => hk w (Fr.refl _ _)) fun hb => ?_
  have hb := of_decide_eq_false hb
  refine F5_call (F5_spec hE rfl (by omega) (fun w1 f1 => back_bool ?_) fun w1 f1 hall h0 h20 => back_bool ?_)
  · exact hk w1 f1
  simp only [Bool.not_true, BIf_false]
  refine F10_call (F10_spec (hE.fr0 f1) rfl h0 (by omega) fun tp tc w2 o2 hb2 f2 => back_slice ?_)
  have f02 := f1.trans f2 fun _ h => h.elim
  refine F4_L1_rule (fun lp ll lc tp tl tc sp sl sc x7 x8 w' => lp = p ∧ ll = es.length ∧ lc = c ∧ sp = p ∧ sl = es.length ∧ x7 = (es.length : Nat) ∧ ∃ i : Nat, x8 = (i : Int) ∧ i ≤ es.length ∧ tl = es.length + i ∧ OwnN w' 33 2 tp tl tc (flat (es ++ (es.take i).map swp)) ∧ (∀ b, bl tp b → w.heap.size ≤ b) ∧ Fr (fun _ => False) w w')
    (fun _ _ _ _ _ _ _ _ _ x7 x8 _ => (x7 - x8).toNat) ?_ ⟨rfl, rfl, rfl, rfl, rfl, rfl, 0, rfl, Nat.zero_le _, rfl, by simpa using o2, fun b h => Nat.le_trans f1.size (hb2 b h), f02⟩
  rintro lp ll lc tp tl tc sp sl sc x7 x8 w3 ⟨hlp, hll, hlc, hsp, hsl, rfl, i, rfl, hi, rfl, o3, hb3, f3⟩
  obtain rfl := hlp.symm; obtain rfl := hll.symm; obtain rfl := hlc.symm; obtain rfl := hsp.symm; obtain rfl := hsl.symm
  unfold F4_L1
  by_cases hil : i < es.length
  · rw [decide_eq_true (by omega)]
    have hget : es[i]? = some (es[i]'(by omega)) := List.getElem?_eq_getElem _
    generalize es[i]'(by omega) = q at hget
    obtain ⟨a, rfl, c1, c2⟩ := hE.fr0 f3 i q hget
    simp only [BIf_true, NN_mk, Int.toNat_natCast]
    refine ⟨by omega, LoadT_int.2 ⟨_, c1, LoadT_int.2 ⟨_, c2, ?_⟩⟩⟩
    refine new_intro fun n w4 hn b4 f4 z4 => ?_
    refine store_intro b4 (by simp) rfl fun w5 b5 f5 z5 => ?_
    refine store_intro b5 (by simp) rfl fun w6 b6 f6 z6 => ?_
    have f36 : Fr (fun _ => False) w3 w6 := (f4.trans f5 fun x e => .inr (by have : x = n := e; omega)).trans f6 fun x e => .inr (by have : x = n := e; omega)
    refine load_int b6 rfl (load_int b6 rfl ?_)
    obtain ⟨i33, g1, g2, g3, g4⟩ := inf33
    refine build_intro und22 g1 g2 (by omega) (by omega) (fill1 q.2 q.1 i33 g3) fun w7 f7 b7 z7 => ?_
    have f37 := f36.trans f7 fun _ h => h.elim
    have o7 := o3.fr f37 fun _ _ h => h
    refine append_own (P := Tryd.prog) und22 g1 g2 g3 (by decide) rfl (by omega) o7 (news := flat [(q.2, q.1)]) (m := 1) (flat_length _) ?_ (flat_one _) (by omega) fun p8 c8 w8 f8 o8 hp8 => ?_
    · intro j u hj
      rw [add_mk, Nat.zero_add, b7.cell]; exact hj
    have e : addI .i64 (i : Nat) 1 = ((i + 1 : Nat) : Int) := by rw [addI_i64 (by omega) (by omega)]; simp
    rw [e]
    have f07 := f3.trans f37 fun _ h => h.elim
    refine ⟨⟨(by trivial), (by trivial), (by trivial), (by trivial), (by trivial), (by trivial), i + 1, rfl, by omega, by omega, ?_, ?_, f07.trans f8 fun b hb => .inr (hb3 b hb)⟩, by omega⟩
    · rw [take_snoc hget, List.map_append, ← List.append_assoc, flat_append]; exact o8
    · intro b hb
      rcases hp8 b hb with h | h
      · exact hb3 b h
      · exact Nat.le_trans f07.size h
  have hin : i = es.length := by omega
  subst hin
  rw [decide_eq_false (by omega)]
  simp only [BIf_false]
  rw [List.take_length] at o3
  have hs3 := hs.fr0 f3
  refine F6_call (F6_spec (hE.fr0 f3) rfl hs3 (by omega) fun ep ec w4 o4 f4 => back_run ?_)
  refine F6_call (F6_spec (o3.edges.fr0 f4) (by simp) (hs3.fr0 f4) (by simp; omega) fun dp dc w5 o5 f5 => back_run ?_)
  have hs5 := (hs3.fr0 f4).fr0 f5
  have hinv := inv_run es inv0
  have hag := run_again es hinv (has_all es inv0)
  have hr : grun G0 (es ++ es.map swp) = ((grun G0 es).1, (grun G0 es).2 ++ (grun (grun G0 es).1 (es.map swp)).2) := by
    rw [grun_append]
    show _ = _
    rw [show (grun (grun G0 es).1 (es.map swp)).1 = (grun G0 es).1 from hag.1]
  rw [hr] at o5 ⊢
  have hne : ∀ x ∈ (grun (grun G0 es).1 (es.map swp)).2, x ≠ 0 := hag.2
  have hlA : (grun G0 es).2.length = es.length := grun_len es G0
  have hlB : (grun (grun G0 es).1 (es.map swp)).2.length = es.length := by rw [grun_len]; simp
  generalize (grun (grun G0 es).1 (es.map swp)).2 = B at *
  generalize (grun G0 es).2 = A at *
  generalize (grun G0 es).1 = s at *
  simp only at o5 ⊢
  refine F9_call (F9_spec hs5 fun w6 f6 => back_bool ?_)
  have e1 : (((s.vs.length : Nat) : Int) != ((s.vs.length : Nat) : Int)) = false := by simp
  have e2 : (((s.e : Nat) : Int) != ((s.e : Nat) : Int)) = false := by simp
  have e3 : (((es.length + es.length : Nat) : Int) != ((es.length + es.length : Nat) : Int)) = false := by simp
  rw [e1, e2, e3]
  simp only [Bool.not_true, BIf_false]
  have o6 := o5.fr f6 fun _ _ h => h
  have o46 := (o4.fr f5 fun _ _ h => h).fr f6 fun _ _ h => h
  obtain ⟨db, rest, rfl, hB, hcap, _⟩ := o6.get (by omega)
  have hcl : es.length + es.length ≤ dc := by
    have := o6.1
    rw [List.length_append, this] at hcap; omega
  have hI := o6.ints
  refine ⟨⟨by omega, by omega⟩, ?_⟩
  simp only [Int.toNat_natCast, Nat.sub_zero, sliceA]
  have hI1 : Ints w6 (if dc = 0 then some (⟨db, 0, none⟩ : Addr) else (some (⟨db, 0, none⟩ : Addr)).map (·.add (0 * 1))) A := by
    intro j x hj
    have hja : j < A.length := (List.getElem?_eq_some_iff.1 hj).1
    obtain ⟨a, ha, hc⟩ := hI j x (by rw [List.getElem?_append_left hja]; exact hj)
    cases ha
    refine ⟨_, ?_, hc⟩
    split
    · rfl
    · simp [Addr.add]
  refine F11_call (F11_spec o46.ints hI1 hlA.symm hlA.symm (by omega) fun w7 f7 => back_bool ?_)
  simp only [decide_true, Bool.not_true, BIf_false]
  refine ⟨⟨by omega, by omega⟩, ?_⟩
  have hI2 : Ints w7 (if dc = es.length then some (⟨db, 0, none⟩ : Addr) else (some (⟨db, 0, none⟩ : Addr)).map (·.add (es.length * 1))) B := by
    rw [if_neg (by omega)]
    intro j x hj
    obtain ⟨a, ha, hc⟩ := (hI.fr0 f7) (A.length + j) x (by rw [List.getElem?_append_right (by omega)]; simpa using hj)
    cases ha
    refine ⟨_, rfl, ?_⟩
    rw [add_mk, Nat.zero_add] at hc
    show w7.cell? (((⟨db, 0, none⟩ : Addr).add (es.length * 1)).add j) = _
    rw [add_mk, add_mk, Nat.zero_add, Nat.mul_one, ← hlA]; exact hc
  refine F8_call (F8_spec hI2 (by omega) (by omega) (back_bool ?_))
  rw [decide_eq_false fun h => hne 0 h rfl]
  exact hk w7 ((((f3.trans f4 fun _ h => h.elim).trans f5 fun _ h => h.elim).trans f6 fun _ h => h.elim).trans f7 fun _ h => h.elim)
end Go.Proofs.YtgmngfgpbjbgjaaDoor.E
