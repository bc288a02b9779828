/-
  Plus trees: FnPTOrder, the walk from its arguments on.
-/
import Derived.Test.YtofnapddoiodkaaPtH
namespace Go.Proofs.Ytofnapddoiodkaa.E
open Go
set_option linter.unusedSimpArgs false
set_option linter.unusedVariables false
set_option maxRecDepth 100000
set_option maxHeartbeats 8000000

theorem und27 : Try.prog.underlying 27 = some (.slice 23) := by kernel_rfl
theorem inf23 : ∃ i, Try.prog.info? 23 = some i ∧ i.zero = some (.slice none 0 0) ∧ i.size = 1 ∧ i.bytes ≤ 4096 := ⟨_, rfl, by kernel_rfl, by kernel_rfl, Nat.le_of_ble_eq_true (by kernel_rfl)⟩
theorem fill23 (p : Option Addr) (l c : Nat) : ∀ i : TypeInfo, i.size = 1 → Instr.fill (fun j => some (j * i.size, i.size)) ((Array.range (1 * i.size)).map ((Value.slice none 0 0).cells[· % (Value.slice none 0 0).cells.size]!)) [(0, .slice p l c)] = some [.slice p l c].toArray := by
  intro i h; rw [h]; kernel_rfl
section
variable {k : Value → W} {w : World}
theorem size_of {one : Int} (h : 0 ≤ one ∧ one < 256) : ∃ S : Nat, addI .u64 3 (remI (IntKind.wrap .u64 one) 10) = ((S : Nat) : Int) ∧ 3 ≤ S ∧ S < 1000 := by
  refine ⟨3 + one.toNat % 10, ?_, by omega, by omega⟩
  rw [wrap_u64 (by omega) (by omega), remI_eq (by omega), addI_u64 (by omega) (by omega)]
  omega
theorem rev_get {own : List KV} {m : Nat} (h : m < own.length) : (own.drop (own.length - 1 - m)).take 1 = [own[own.length - 1 - m]'(by omega)] ∧ own.reverse[m]? = some (own[own.length - 1 - m]'(by omega)) := by
  constructor
  · rw [List.drop_eq_getElem_cons (show own.length - 1 - m < own.length by omega)]; rfl
  · rw [List.getElem?_reverse h, List.getElem?_eq_getElem (by omega)]
/-- All words are put in, in both ways; what both trees get is held against each other. -/
theorem F3_J1_spec {own ask : List KV} {one two : Int} {wp ap : Option Addr} {wc ac : Nat} (h1 : 0 ≤ one ∧ one < 256) (h2 : 0 ≤ two ∧ two < 256) (hW : Sl ItK w wp own) (hwc : own.length ≤ wc) (hA : Sl ItK w ap ask) (h0 : own ≠ []) (hnd : (own.map Prod.fst).Nodup) (hl : own.length ≤ 40) (hal : ask.length < 1000)
    (hown : ∀ (i : Nat) (y : KV), own[i]? = some y → ask[i]? = some y) (hk : ∀ w', Fr (fun _ => False) w w' → k (.bool true) w') :
    F3_J1 k one two wp own.length wc ap ask.length ac w := by
  have hpos : 0 < own.length := List.length_pos_iff.2 h0
  obtain ⟨i23, g1, g2, g3, g4⟩ := inf23
  unfold F3_J1
  refine bind_intro ?_
  rw [subI_i64 (by omega) (by omega)]
  refine F3_L2_rule (I := fun o t p l c p2 l2 c2 bp bl' bc i w' => o = one ∧ t = two ∧ p = wp ∧ l = own.length ∧ c = wc ∧ p2 = ap ∧ l2 = ask.length ∧ c2 = ac ∧ ∃ m : Nat, i = ((own.length : Nat) : Int) - 1 - ((m : Nat) : Int) ∧ m ≤ own.length ∧ SlO SlK w' bp bl' bc ((own.reverse.take m).map fun y => [y]) ∧
      Sl ItK w' wp own ∧ Sl ItK w' ap ask ∧ (∀ b, bl bp b → w.heap.size ≤ b) ∧ Fr (fun _ => False) w w')
    (μ := fun o t p l c p2 l2 c2 bp bl' bc i w' => (i + 1).toNat) ?_ ⟨rfl, rfl, rfl, rfl, rfl, rfl, rfl, rfl, 0, by omega, Nat.zero_le _, SlO.nil _ _, hW, hA, (fun b ⟨_, h, _⟩ => by cases h), Fr.refl _ _⟩
  rintro o t p l c p2 l2 c2 bp bl' bc i w1 ⟨rfl, rfl, e1, e2, e3, e4, e5, e6, m, rfl, hm, O1, hW1, hA1, hbp, f1⟩
  obtain rfl := e1.symm
  obtain rfl := e3.symm
  obtain rfl := e4.symm
  obtain rfl := e6.symm
  unfold F3_L2
  rw [e2, e5]
  have hz1 := f1.size
  by_cases hlt : m < own.length
  · rw [decide_eq_true (show ((own.length : Nat) : Int) - 1 - ((m : Nat) : Int) ≥ 0 by omega), BIf_true]
    rw [addI_i64 (by omega) (by omega)]
    have ei : ((own.length : Nat) : Int) - 1 - ((m : Nat) : Int) = ((own.length - 1 - m : Nat) : Int) := by omega
    have ei1 : ((own.length : Nat) : Int) - 1 - ((m : Nat) : Int) + 1 = ((own.length - 1 - m + 1 : Nat) : Int) := by omega
    rw [ei1, ei, Int.toNat_natCast, Int.toNat_natCast]
    refine ⟨by omega, ⟨by omega, ?_⟩⟩
    rw [Nat.add_sub_cancel_left]
    have hX := ((hW1.drop (n := own.length - 1 - m) hwc).take 1)
    obtain ⟨r1, r2⟩ := rev_get hlt
    rw [r1] at hX
    generalize own[own.length - 1 - m]'(by omega) = y at r1 r2 hX
    refine build_intro und27 g1 g2 (by omega) (by omega) (fill23 _ _ _ i23 g3) fun w2 f2 b2 z2 => ?_
    refine SlO.append (K := SlK) und27 g1 g2 g3 (by decide) rfl g4 (by decide) (O1.fr0 f2) b2 (ys := [[y]]) (Rows.one (K := SlK) ⟨_, _, rfl, hX.fr0 f2⟩) rfl rfl (fun u hu => ?_) ?_ fun p' c' w3 f3 O3 hp3 => ?_
    · simp only [List.mem_cons, List.not_mem_nil, or_false] at hu
      subst hu; rfl
    · have := O1.len
      simp at this; omega
    rw [subI_i64 (by omega) (by omega)]
    have T3 : Tys (fun b => bl bp b) w2 [23] := (O1.fr0 f2).ty
    refine ⟨⟨by trivial, by trivial, by trivial, by trivial, by trivial, by trivial, by trivial, by trivial, m + 1, by omega, hlt, ?_, (hW1.fr0 f2).fr f3 T3 (by decide), (hA1.fr0 f2).fr f3 T3 (by decide), fun b hb => ?_, (f1.trans f2 fun _ h => h.elim).trans f3 fun b hb => .inr (hbp b hb)⟩, ?_⟩
    · rw [take_snoc r2, List.map_append]; exact O3
    · rcases hp3 b hb with h | h
      · exact hbp b h
      · omega
    · show ((((own.length - 1 - m : Nat) : Int) - 1) + 1).toNat < own.length - 1 - m + 1
      omega
  · have hme : m = own.length := by omega
    subst hme
    rw [decide_eq_false (show ¬ ((own.length : Nat) : Int) - 1 - ((own.length : Nat) : Int) ≥ 0 by omega), BIf_false]
    rw [List.take_of_length_le (by simp)] at O1
    have hbl := O1.len
    have hbl : bl' = own.length := by simpa using hbl
    refine ⟨by omega, ?_⟩
    refine build_intro und27 g1 g2 (by omega) (by omega) (fill23 _ _ _ i23 g3) fun w2 f2 b2 z2 => ?_
    have hC1 : Sl SlK w2 (some ⟨w1.heap.size, 0, none⟩) [own] := Sl.of_blk (K := SlK) b2 (Rows.one (K := SlK) ⟨_, _, rfl, hW1.fr0 f2⟩)
    obtain ⟨S1, e1, s1, s2⟩ := size_of h1
    obtain ⟨S2, e2, t1, t2⟩ := size_of h2
    rw [e1]
    refine F5_call (F5_spec (calls := [own]) s1 s2 hC1 (hA1.fr0 f2) (by simp; omega) (by simp) hal fun w3 p1 c1 p2 c2 hP1 hQ1 f3 => back_gd ?_)
    have f13 := f2.trans f3 fun _ h => h.elim
    refine ⟨by omega, ?_⟩
    rw [e2, hbl]
    have hlen2 : own.length = ((own.reverse).map fun y => [y]).length := by simp
    rw [hlen2]
    have hfl : ((own.reverse).map fun y => [y]).flatten = own.reverse := by
      generalize own.reverse = l
      induction l with
      | nil => rfl
      | cons a l ih => rw [List.map_cons, List.flatten_cons, ih]; rfl
    refine F5_call (F5_spec t1 t2 ((O1.fr0 f13).sl) (hA1.fr0 f13) (by rw [hfl]; simp; omega) (by simp; omega) hal fun w4 p3 c3 p4 c4 hP2 hQ2 f4 => back_gd ?_)
    rw [hfl] at hP2 hQ2 ⊢
    rw [← hlen2]
    have H1 := holds_put hnd
    have H2 := holds_rev hnd
    have hf1 : [own].flatten = own := by simp
    rw [hf1] at hP1 hQ1 ⊢
    rw [Bool.not_true, BIf_false, BIf_false, wrap_len (by omega), H1.l, H2.l]
    rw [show (((own.length : Nat) : Int) != ((own.length : Nat) : Int)) = false by simp, BIf_false, BIf_false]
    refine F3_L3_spec ((hW1.fr0 f13).fr0 f4) (hP1.fr0 f4) (hQ1.fr0 f4) hP2 hQ2 (by simp) (by simp) (by simp) (by simp) hal ?_ ?_ (fun i y hy => ?_) fun w5 f5 => hk w5 (((f1.trans f13 fun _ h => h.elim).trans f4 fun _ h => h.elim).trans f5 fun _ h => h.elim)
    · exact List.map_congr_left fun x _ => by rw [H1.same H2]
    · exact List.map_congr_left fun x _ => by rw [H1.same H2]
    · have ha := hown i y hy
      have hlk := H1.look (List.mem_of_getElem? hy)
      rw [List.getElem?_map, List.getElem?_map, ha, Option.map_some, Option.map_some, hlk]
      exact ⟨rfl, rfl⟩
/-- FnPTOrder. -/
theorem F3_spec {one two : Int} {kp op : Option Addr} {kl kc ol oc : Nat} {xs zs : List Int} (h1 : 0 ≤ one ∧ one < 256) (h2 : 0 ≤ two ∧ two < 256) (hK : Ints w kp xs) (hkl : kl = xs.length) (hO : Ints w op zs) (hol : ol = zs.length) (hk : ∀ w', Fr (fun _ => False) w w' → k (.bool true) w') :
    F3 k one two kp kl kc op ol oc w := by
  subst hkl hol
  unfold F3
  by_cases hb1 : xs.length > 2147483647
  · rw [decide_eq_true (show ((xs.length : Nat) : Int) > 2147483647 by omega), BIf_true]
    exact hk w (Fr.refl _ _)
  rw [decide_eq_false (show ¬ ((xs.length : Nat) : Int) > 2147483647 by omega), BIf_false]
  by_cases hb2 : zs.length > 2147483647
  · rw [decide_eq_true (show ((zs.length : Nat) : Int) > 2147483647 by omega), BIf_true]
    exact hk w (Fr.refl _ _)
  rw [decide_eq_false (show ¬ ((zs.length : Nat) : Int) > 2147483647 by omega), BIf_false]
  refine F4_call (F4_spec hK (by omega) fun w1 wp wc own O1 hnd hl hwp f1 => back_slice ?_)
  by_cases h0 : own = []
  · subst h0
    rw [show (((([] : List KV).length : Nat) : Int) == 0) = true from rfl, BIf_true]
    exact hk w1 f1
  have hpos : 0 < own.length := List.length_pos_iff.2 h0
  rw [show (((own.length : Nat) : Int) == 0) = false by rw [beq_eq_false_iff_ne]; omega, BIf_false]
  obtain ⟨i26, g1, g2, g3, g4⟩ := inf26
  refine build_none und23 g1 fun w2 f2 b2 z2 => ?_
  have O2 := O1.fr0 f2
  have hwc := O2.le
  obtain ⟨vs, hO2, _, hR2⟩ := id O2
  obtain ⟨q, rest, rfl, hBq⟩ := hO2.get hpos
  have hE : OwnN w2 26 2 (some ⟨w1.heap.size, 0, none⟩) 0 0 [] := OwnN.made b2 rfl (by decide)
  have hcell : ∀ (j : Nat) u, vs[j]? = some u → w2.cell? ((⟨q, 0, none⟩ : Addr).add j) = some u := fun j u hu => by
    rw [add_mk, Nat.zero_add, hO2.cell (by have := (List.getElem?_eq_some_iff.1 hu).1; rw [← hO2.1]; exact this)]; exact hu
  have hone : ∀ u ∈ vs, u.oneCell' = true := fun u hu => by
    obtain ⟨j, hj⟩ := List.mem_iff_getElem?.1 hu
    have hjl := (List.getElem?_eq_some_iff.1 hj).1
    rw [hO2.1] at hjl
    have hjl : j < own.length * 2 := hjl
    have hx : own[j / 2]? = some (own[j / 2]'(by omega)) := List.getElem?_eq_getElem (by omega)
    have h12 := hR2 _ _ hx
    have ha : vs[0 + j / 2 * 2 + 0]? = _ := h12.1
    have hb : vs[0 + j / 2 * 2 + 1]? = _ := h12.2
    rcases Nat.mod_two_eq_zero_or_one j with e | e
    · rw [show 0 + j / 2 * 2 + 0 = j by omega, hj] at ha; cases ha; rfl
    · rw [show 0 + j / 2 * 2 + 1 = j by omega, hj] at hb; cases hb; rfl
  refine append_own und23 g1 g2 g3 (by decide) rfl g4 hE (m := own.length) hO2.1 hcell hone (by omega) fun p' c' w3 f3 O3 hp3 => ?_
  rw [Nat.zero_add, List.nil_append] at O3
  rw [Nat.zero_add]
  have hz1 := f1.size
  have hbn : ∀ b, bl (some ⟨w1.heap.size, 0, none⟩) b → b = w1.heap.size := fun b hb => bl_q.1 hb
  have f23 : Fr (fun b => b = w1.heap.size) w2 w3 := f3.mono fun b hb => .inl (hbn b hb)
  have f13 : Fr (fun _ => False) w1 w3 := f2.trans f23 fun b hb => .inr (by have hb : b = w1.heap.size := hb; omega)
  have hW3 : Sl ItK w3 (some ⟨q, 0, none⟩) own := O1.sl.fr0 f13
  have A3 : SlO ItK w3 p' own.length c' own := ⟨vs, O3, rfl, fun i x hx => hR2 i x hx⟩
  have hzf := f13.size
  refine F3_L1_rule (I := fun o t p l c p2 l2 c2 p3 l3 c3 i w' => o = one ∧ t = two ∧ p = op ∧ l = zs.length ∧ p2 = some ⟨q, 0, none⟩ ∧ l2 = own.length ∧ c2 = wc ∧ ∃ m : Nat, i = ((m : Nat) : Int) ∧ m ≤ zs.length ∧ m ≤ 20 ∧ SlO ItK w' p3 l3 c3 (own ++ (zs.take m).map fun z => (z, 0)) ∧ (∀ b, bl p3 b → w1.heap.size ≤ b) ∧ Fr (fun _ => False) w1 w')
    (μ := fun o t p l c p2 l2 c2 p3 l3 c3 i w' => zs.length - i.toNat) ?_ ⟨rfl, rfl, rfl, rfl, rfl, rfl, rfl, 0, rfl, Nat.zero_le _, Nat.zero_le _, by simpa using A3, (fun b hb => ?_), f13⟩
  · rintro o t p l c p2 l2 c2 p3 l3 c3 i w4 ⟨rfl, rfl, e1, e2, e3, e4, e5, m, rfl, hm, hm20, O4, hp4, f4⟩
    obtain rfl := e1.symm
    obtain rfl := e5.symm
    unfold F3_L1
    rw [e2, e3, e4]
    have hal := O4.len
    have done : F3_J1 k o t (some ⟨q, 0, none⟩) own.length wc p3 l3 c3 w4 := by
      rw [hal]
      refine F3_J1_spec h1 h2 (O1.sl.fr0 f4) hwc.1 O4.sl h0 hnd hl (by simp; omega) (fun i y hy => ?_) fun w5 f5 => hk w5 ((f1.trans f4 fun _ h => h.elim).trans f5 fun _ h => h.elim)
      rw [List.getElem?_append_left (List.getElem?_eq_some_iff.1 hy).1]; exact hy
    by_cases hlt : m < zs.length
    · rw [decide_eq_true (show ((m : Nat) : Int) < ((zs.length : Nat) : Int) by omega), BIf_true]
      by_cases h20 : m < 20
      · rw [decide_eq_true (show ((m : Nat) : Int) < 20 by omega), BIf_true]
        have hx : zs[m]? = some zs[m] := List.getElem?_eq_getElem hlt
        generalize zs[m] = z at hx
        obtain ⟨a, rfl, ha⟩ := (hO.fr0 (f1.trans f4 fun _ h => h.elim)) m z hx
        simp only [NN_mk, Int.toNat_natCast]
        refine ⟨by omega, LoadT_int.2 ⟨_, ha, ?_⟩⟩
        refine bld_it fun n w5 e5 b5 f5 z5 => ?_
        have hz4 := f4.size
        refine app_it (x := (z, 0)) (O4.fr0 f5) b5 (by rw [hal]; simp; omega) fun p' c' w6 f6 O6 hp6 => ?_
        rw [addI_i64 (by omega) (by omega)]
        refine ⟨⟨by trivial, by trivial, by trivial, by trivial, by trivial, by trivial, by trivial, m + 1, by omega, hlt, h20, ?_, fun b hb => ?_, (f4.trans f5 fun _ h => h.elim).trans f6 fun b hb => .inr (hp4 b hb)⟩, ?_⟩
        · rw [take_snoc hx, List.map_append, ← List.append_assoc]; exact O6
        · rcases hp6 b hb with h | h
          · exact hp4 b h
          · omega
        · show zs.length - (((m : Nat) : Int) + 1).toNat < zs.length - ((m : Nat) : Int).toNat
          omega
      · rw [decide_eq_false (show ¬ ((m : Nat) : Int) < 20 by omega), BIf_false]
        exact done
    · rw [decide_eq_false (show ¬ ((m : Nat) : Int) < ((zs.length : Nat) : Int) by omega), BIf_false]
      exact done
  · rcases hp3 b hb with h | h
    · rw [hbn b h]; exact Nat.le_refl _
    · omega
theorem ints_of {a : Option Addr} {len cap : Nat} {zs : List Int} (h : IsRow .i64 w a len cap zs) : Ints w a (zs.take len) ∧ len = (zs.take len).length := by
  rcases h with ⟨rfl, rfl, rfl, rfl⟩ | ⟨x, rfl, h1, h2, h3, h4, h5⟩
  · exact ⟨fun i x hx => by simp at hx, rfl⟩
  · refine ⟨fun i y hy => ⟨x, rfl, ?_⟩, by simp; omega⟩
    have hi : i < (zs.take len).length := (List.getElem?_eq_some_iff.1 hy).1
    simp only [List.length_take] at hi
    rw [h4 i (by omega)]
    rw [List.getElem?_take, if_pos (by omega)] at hy
    rw [List.getD_eq_getElem?_getD, hy]; rfl
end
end Go.Proofs.Ytofnapddoiodkaa.E
