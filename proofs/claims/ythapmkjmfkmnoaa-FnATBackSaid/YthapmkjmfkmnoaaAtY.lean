/-
  Interval trees: FnATBack.
-/
import Derived.Test.YthapmkjmfkmnoaaAtX
namespace Go.Proofs.Ythapmkjmfkmnoaa.E
open Go
set_option linter.unusedSimpArgs false
set_option linter.unusedVariables false
set_option maxRecDepth 100000
set_option maxHeartbeats 8000000

theorem fill38g (n1 n2 n3 n4 n5 n6 n7 : Int) (p1 p2 p3 p4 p5 p6 p7 : Option Addr) (l1 l2 l3 l4 l5 l6 l7 c1 c2 c3 c4 c5 c6 c7 : Nat) : ∀ i : TypeInfo, i.size = 2 → Instr.fill (fun j => some (j * i.size, i.size)) ((Array.range (7 * i.size)).map (z38.cells[· % z38.cells.size]!)) [(0, .agg #[.int .i64 n1, .slice p1 l1 c1]), (1, .agg #[.int .i64 n2, .slice p2 l2 c2]), (2, .agg #[.int .i64 n3, .slice p3 l3 c3]), (3, .agg #[.int .i64 n4, .slice p4 l4 c4]), (4, .agg #[.int .i64 n5, .slice p5 l5 c5]), (5, .agg #[.int .i64 n6, .slice p6 l6 c6]), (6, .agg #[.int .i64 n7, .slice p7 l7 c7])] =
    some [.int .i64 n1, .slice p1 l1 c1, .int .i64 n2, .slice p2 l2 c2, .int .i64 n3, .slice p3 l3 c3, .int .i64 n4, .slice p4 l4 c4, .int .i64 n5, .slice p5 l5 c5, .int .i64 n6, .slice p6 l6 c6, .int .i64 n7, .slice p7 l7 c7].toArray := by
  intro i h; rw [h]; kernel_rfl
/-! ## Plain -/
/-- What is taken out and put in again makes the same. -/
theorem back_same {l : List Sp} {k : Nat} (hn : (l.map Sp.id).Nodup) : insAll (remAll (insAll [] l) (l.take k)) (l.take k) = insAll [] l ∧ (remAll (insAll [] l) (l.take k)).length = l.length - k ∧ ((remAll (insAll [] l) (l.take k) ++ l.take k).map Sp.id).Nodup := by
  have p := insAll_perm l []
  have p : (insAll [] l).Perm l := by simpa using p
  have hr := remAll_eq (l.take k) (insAll [] l)
  have hd : l.filter (fun y => decide (y.id ∉ (l.take k).map Sp.id)) = l.drop k := by
    conv => lhs; rw [← List.take_append_drop k l]
    have hn' := hn
    rw [← List.take_append_drop k l, List.map_append] at hn'
    obtain ⟨h1, h2, h3⟩ := List.nodup_append.1 hn'
    rw [List.take_append_drop]
    have e1 : (l.take k).filter (fun y => decide (y.id ∉ (l.take k).map Sp.id)) = [] := List.filter_eq_nil_iff.2 fun y hy => by
      simp only [decide_eq_true_eq, Classical.not_not]
      exact List.mem_map.2 ⟨y, hy, rfl⟩
    have e2 : (l.drop k).filter (fun y => decide (y.id ∉ (l.take k).map Sp.id)) = l.drop k := List.filter_eq_self.2 fun y hy => by
      simp only [decide_eq_true_eq]
      intro hm
      exact h3 y.id hm y.id (List.mem_map.2 ⟨y, hy, rfl⟩) rfl
    conv => lhs; rw [← List.take_append_drop k l, List.filter_append]
    have e3 : (l.take k ++ l.drop k).take k = l.take k := by rw [List.take_append_drop]
    rw [e3, e1, e2]; rfl
  have pr : (remAll (insAll [] l) (l.take k)).Perm (l.drop k) := by rw [hr, ← hd]; exact p.filter _
  have pb : (remAll (insAll [] l) (l.take k) ++ l.take k).Perm l := by
    refine (pr.append_right _).trans (List.perm_append_comm.trans ?_)
    rw [List.take_append_drop]
  have hnb : ((remAll (insAll [] l) (l.take k) ++ l.take k).map Sp.id).Nodup := ((pb.map Sp.id).nodup_iff).2 hn
  have so : (insAll [] l).Pairwise kls := insAll_sorted List.Pairwise.nil (by simpa using hn)
  have so2 : (remAll (insAll [] l) (l.take k)).Pairwise kls := by rw [hr]; exact so.sublist List.filter_sublist
  refine ⟨kls_uniq (insAll_sorted so2 hnb) so ((insAll_perm _ _).trans (pb.trans p.symm)), by rw [pr.length_eq, List.length_drop], hnb⟩
/-- The seven steps. -/
def seven (l : List Sp) (k : Nat) (x : Sp) : List Stp := [⟨1, l⟩, ⟨3, [x]⟩, ⟨2, l.take k⟩, ⟨4, []⟩, ⟨1, l.take k⟩, ⟨3, [x]⟩, ⟨4, []⟩]
theorem seven_ok {l : List Sp} {k n : Nat} {x : Sp} (hn3 : n ≤ 3) (hd : ∀ y ∈ l, Dim n y) (hx : Dim n x) (hn : (l.map Sp.id).Nodup) (hl : l.length < 100) : okR [] (seven l k x) := by
  have p : (insAll [] l).Perm l := by have := insAll_perm l []; simpa using this
  obtain ⟨b1, b2, b3⟩ := back_same (k := k) hn
  have ht : ∀ y ∈ l.take k, y ∈ l := fun y hy => List.mem_of_mem_take hy
  have sh : ∀ y ∈ l, Shrt y := fun y hy => (hd y hy).shrt hn3
  have shx : ∀ y ∈ [x], Shrt y := fun y hy => by rw [List.mem_singleton] at hy; rw [hy]; exact hx.shrt hn3
  have hI : (insAll [] l).length < 500 := by rw [p.length_eq]; omega
  have hnI : ((insAll [] l).map Sp.id).Nodup := ((p.map Sp.id).nodup_iff).2 hn
  have tl : (l.take k).length < 1000 := by rw [List.length_take]; omega
  have rl : (remAll (insAll [] l) (l.take k)).length < 500 := by rw [b2]; omega
  have hnR : ((remAll (insAll [] l) (l.take k)).map Sp.id).Nodup := by
    rw [List.map_append] at b3
    exact (List.nodup_append.1 b3).1
  refine ⟨⟨sh, by show l.length < 1000; omega, by show 0 < 500; decide, List.nodup_nil, .inl ⟨rfl, by simpa using hn⟩⟩, ?_⟩
  show okR (insAll [] l) _
  refine ⟨⟨shx, by simp, hI, hnI, .inr (.inr (.inl ⟨rfl, by simp⟩))⟩, ?_⟩
  show okR (insAll [] l) _
  refine ⟨⟨fun y hy => sh y (ht y hy), tl, hI, hnI, .inr (.inl ⟨rfl, hn.sublist ((List.take_sublist k l).map _), fun y hy => p.mem_iff.2 (ht y hy)⟩)⟩, ?_⟩
  show okR (remAll (insAll [] l) (l.take k)) _
  refine ⟨⟨fun y hy => (by cases hy), by decide, rl, hnR, .inr (.inr (.inr rfl))⟩, ?_⟩
  show okR (remAll (insAll [] l) (l.take k)) _
  refine ⟨⟨fun y hy => sh y (ht y hy), tl, rl, hnR, .inl ⟨rfl, b3⟩⟩, ?_⟩
  show okR (insAll (remAll (insAll [] l) (l.take k)) (l.take k)) _
  rw [b1]
  refine ⟨⟨shx, by simp, hI, hnI, .inr (.inr (.inl ⟨rfl, by simp⟩))⟩, ?_⟩
  show okR (insAll [] l) _
  exact ⟨⟨fun y hy => (by cases hy), by decide, hI, hnI, .inr (.inr (.inr rfl))⟩, trivial⟩
theorem seven_run {l : List Sp} {k n : Nat} {x : Sp} (hn : (l.map Sp.id).Nodup) : runA n [] (seven l k x) = [⟨[], 0⟩, ⟨(insAll [] l).filter (ovP n x), 0⟩, ⟨[], 0⟩, ⟨[], l.length - k⟩, ⟨[], 0⟩, ⟨(insAll [] l).filter (ovP n x), 0⟩, ⟨[], l.length⟩] := by
  obtain ⟨b1, b2, b3⟩ := back_same (k := k) hn
  have p := (insAll_perm l []).length_eq
  have p : (insAll [] l).length = l.length := by simpa using p
  have e : runA n [] (seven l k x) = [⟨[], 0⟩, ⟨(insAll [] l).filter (ovP n x), 0⟩, ⟨[], 0⟩, ⟨[], (remAll (insAll [] l) (l.take k)).length⟩, ⟨[], 0⟩, ⟨(insAll (remAll (insAll [] l) (l.take k)) (l.take k)).filter (ovP n x), 0⟩, ⟨[], (insAll (remAll (insAll [] l) (l.take k)) (l.take k)).length⟩] := rfl
  rw [e, b1, b2, p]
section
variable {w : World} {k : Value → W}
/-- What both queries have found is held against each other. -/
theorem F3_L2_spec {lp : Option Addr} {lc : Nat} {al : List Ans} {a : Ans} (hA : Sl AnK w lp al) (hK : al.length = 7) (h1 : al[1]? = some a) (h5 : al[5]? = some a) (hl : a.spans.length < 1000)
    (hk : ∀ w', Fr (fun _ => False) w w' → k (.bool true) w') : Loop [.slice, (.int .i64)] (F3_L2 k) lp 7 lc 0 w := by
  refine F3_L2_rule (I := fun lp' ll lc' i w' => lp' = lp ∧ ll = 7 ∧ lc' = lc ∧ ∃ t : Nat, i = ((t : Nat) : Int) ∧ t ≤ a.spans.length ∧ Fr (fun _ => False) w w') (μ := fun lp' ll lc' i w' => a.spans.length - i.toNat) ?_ ⟨rfl, rfl, rfl, 0, rfl, Nat.zero_le _, Fr.refl _ _⟩
  rintro lp' ll lc' i w1 ⟨e1, rfl, e3, t, rfl, ht, f1⟩
  obtain rfl := e1.symm
  obtain rfl := e3.symm
  unfold F3_L2
  obtain ⟨q, o, rfl, ap, ac, c0, c1, hS⟩ := hA.get h1
  obtain ⟨q', o', hqo, bp, bc, d0, d1, hS'⟩ := hA.get h5
  obtain ⟨rfl, rfl⟩ : q = q' ∧ o = o' := by simpa using hqo
  have c0 : w.cell? ⟨q, o + 2, none⟩ = some (.slice ap a.spans.length ac) := c0
  have d0 : w.cell? ⟨q, o + 10, none⟩ = some (.slice bp a.spans.length bc) := d0
  rw [show (1 : Int).toNat * 2 = 2 from rfl, show (5 : Int).toNat * 2 = 10 from rfl]
  simp only [NN_mk, Int.toNat_natCast, add_mk]
  refine ⟨by decide, LoadT_slice.2 ⟨_, _, _, cell_kp c0 f1, ?_⟩⟩
  by_cases hlt : t < a.spans.length
  · rw [decide_eq_true (show ((t : Nat) : Int) < ((a.spans.length : Nat) : Int) by omega), BIf_true]
    refine drw_intro fun w2 f2 z2 => ?_
    have f02 := f1.trans f2 fun _ h => h.elim
    refine ⟨by decide, LoadT_slice.2 ⟨_, _, _, cell_kp c0 f02, ?_⟩⟩
    have hy : a.spans[t]? = some a.spans[t] := List.getElem?_eq_getElem hlt
    generalize a.spans[t] = y at hy
    obtain ⟨r, or', rfl, yp, yc, yq, yd, y0, y1, y2, y3, y4⟩ := hS.get hy
    have y2 : w.cell? ⟨r, or' + t * 3 + 2, none⟩ = some (.int .u64 ((y.id : Nat) : Int)) := y2
    obtain ⟨r', or2, rfl, yp', yc', yq', yd', y0', y1', y2', y3', y4'⟩ := hS'.get hy
    have y2' : w.cell? ⟨r', or2 + t * 3 + 2, none⟩ = some (.int .u64 ((y.id : Nat) : Int)) := y2'
    simp only [NN_mk, Int.toNat_natCast, add_mk]
    refine ⟨by omega, LoadT_int.2 ⟨_, cell_kp y2 f02, ⟨by decide, LoadT_slice.2 ⟨_, _, _, cell_kp d0 f02, ?_⟩⟩⟩⟩
    simp only [NN_mk, Int.toNat_natCast, add_mk]
    refine ⟨by omega, LoadT_int.2 ⟨_, cell_kp y2' f02, ?_⟩⟩
    rw [show (((y.id : Nat) : Int) != ((y.id : Nat) : Int)) = false by simp, BIf_false, addI_i64 (by omega) (by omega)]
    refine ⟨⟨by trivial, by trivial, by trivial, t + 1, by omega, hlt, f02⟩, ?_⟩
    show a.spans.length - (((t : Nat) : Int) + 1).toNat < a.spans.length - ((t : Nat) : Int).toNat
    omega
  · rw [decide_eq_false (show ¬ ((t : Nat) : Int) < ((a.spans.length : Nat) : Int) by omega), BIf_false]
    exact hk w1 f1
/-- FnATBack, from its lists on. -/
theorem F3_L1_spec {n K n29 : Nat} {lp : Option Addr} {lc : Nat} {xs : List Sp} {xp xq : Option Addr} {xc xd iid : Nat} {lows highs : List Int} (hn1 : 1 ≤ n) (hn : n ≤ 3) (hL : Sl (SpK 32) w lp xs) (hdim : ∀ x ∈ xs, Dim n x) (hnd : (xs.map Sp.id).Nodup) (hl : xs.length ≤ 30) (hK : K < xs.length)
    (l1 : lows.length = n) (l2 : highs.length = n) (s1 : Sl IntK w xp lows) (s2 : Sl IntK w xq highs) (b29 : Blk w n29 30 [.slice xp n xc, .slice xq n xd, .int .u64 ((iid : Nat) : Int)])
    (hk : ∀ w', Fr (fun _ => False) w w' → k (.bool true) w') :
    Loop [(.int .i64), .slice, .addr, (.int .i64), .slice, .slice, (.int .i64)] (F3_L1 k) ((n : Nat) : Int) lp xs.length lc ⟨n29, 0, none⟩ ((K : Nat) : Int) none 0 0 none 0 0 0 w := by
  obtain ⟨i38, g1, g2, g3, g4⟩ := inf38
  refine F3_L1_rule (I := fun d' lp' ll lc' x' k' ap al ac pp pl pc i w' => d' = ((n : Nat) : Int) ∧ lp' = lp ∧ ll = xs.length ∧ lc' = lc ∧ x' = ⟨n29, 0, none⟩ ∧ k' = ((K : Nat) : Int) ∧ ∃ t : Nat, i = ((t : Nat) : Int) ∧ t ≤ xs.length ∧ SlO (SpK 30) w' ap al ac (xs.take t) ∧ SlO (SpK 30) w' pp pl pc ((xs.take K).take t) ∧ (∀ b, bl ap b → w.heap.size ≤ b) ∧ (∀ b, bl pp b → w.heap.size ≤ b) ∧ (∀ b, bl ap b → ¬ bl pp b) ∧ Fr (fun _ => False) w w')
    (μ := fun d' lp' ll lc' x' k' ap al ac pp pl pc i w' => xs.length - i.toNat) ?_ ⟨rfl, rfl, rfl, rfl, rfl, rfl, 0, rfl, Nat.zero_le _, SlO.nil _ _, SlO.nil _ _, (fun b ⟨_, h, _⟩ => by cases h), (fun b ⟨_, h, _⟩ => by cases h), (fun b ⟨_, h, _⟩ => by cases h), Fr.refl _ _⟩
  rintro d' lp' ll lc' x' k' ap al ac pp pl pc i w1 ⟨rfl, e1, e2, e3, rfl, rfl, t, rfl, ht, O1, P1, ha, hp, hap, f1⟩
  obtain rfl := e1.symm
  obtain rfl := e3.symm
  unfold F3_L1
  rw [e2]
  have hz1 := f1.size
  have hal : al = t := by rw [O1.len, List.length_take]; omega
  have hpl : pl = min t K := by rw [P1.len, List.length_take, List.length_take]; omega
  by_cases hlt : t < xs.length
  · rw [decide_eq_true (show ((t : Nat) : Int) < ((xs.length : Nat) : Int) by omega), BIf_true]
    have hy : xs[t]? = some xs[t] := List.getElem?_eq_getElem hlt
    have hmem := List.getElem_mem hlt
    generalize xs[t] = y at hy hmem
    obtain ⟨m1, m2⟩ := hdim y hmem
    obtain ⟨a, oa, rfl, yp, yc, yq, yd, y0, y1, y2, y3, y4⟩ := hL.get hy
    rw [m1] at y0
    rw [m2] at y1
    have y0 : w.cell? ⟨a, oa + t * 3, none⟩ = some (.slice yp n yc) := y0
    have y1 : w.cell? ⟨a, oa + t * 3 + 1, none⟩ = some (.slice yq n yd) := y1
    have y2 : w.cell? ⟨a, oa + t * 3 + 2, none⟩ = some (.int .u64 ((y.id : Nat) : Int)) := y2
    simp only [NN_mk, Int.toNat_natCast, add_mk, Nat.add_zero]
    refine ⟨by omega, LoadT_slice.2 ⟨_, _, _, cell_kp y0 f1, LoadT_slice.2 ⟨_, _, _, cell_kp y1 f1, LoadT_int.2 ⟨_, cell_kp y2 f1, ?_⟩⟩⟩⟩
    refine F6_call (F6_spec hn1 hn m1 m2 (y3.fr0 f1) (y4.fr0 f1) fun w2 p2 c2 q2 d2 t1 t2 f2 => back_sp ?_)
    refine bld_sp fun r w3 e3' b3 f3 z3 => ?_
    have O3 := (O1.fr0 f2).fr0 f3
    have P3 := (P1.fr0 f2).fr0 f3
    have z2 := f2.size
    refine app_sp (x := y) O3 b3 rfl one3 ⟨p2, c2, q2, d2, by rw [m1]; rfl, by rw [m2]; rfl, rfl, t1.fr0 f3, t2.fr0 f3⟩ (by omega) fun p4 c4 w4 f4 O4 hp4 => ?_
    have f04 : Fr (fun _ => False) w w4 := ((f1.trans f2 fun _ h => h.elim).trans f3 fun _ h => h.elim).trans f4 fun b hb => .inr (ha b hb)
    have P4 : SlO (SpK 30) w4 pp pl pc ((xs.take K).take t) := P3.fr' f4 (fun b hb hb' => hap b hb' hb) (fun b u us hb hu => by
      have := O3.ty b u us hb hu
      have e30 : u = 30 := by simpa [SpK] using this
      rw [e30]; simp [SpK])
    have ha4 : ∀ b, bl p4 b → w.heap.size ≤ b := fun b hb => by
      rcases hp4 b hb with h | h
      · exact ha b h
      · omega
    have hap4 : ∀ b, bl p4 b → ¬ bl pp b := fun b hb hb' => by
      rcases hp4 b hb with h | h
      · exact hap b h hb'
      · have := P3.lt hb'; omega
    by_cases hk' : t < K
    · rw [decide_eq_true (show ((t : Nat) : Int) < ((K : Nat) : Int) by omega), BIf_true]
      refine ⟨by omega, LoadT_slice.2 ⟨_, _, _, cell_kp y0 f04, LoadT_slice.2 ⟨_, _, _, cell_kp y1 f04, LoadT_int.2 ⟨_, cell_kp y2 f04, ?_⟩⟩⟩⟩
      refine F6_call (F6_spec hn1 hn m1 m2 (y3.fr0 f04) (y4.fr0 f04) fun w5 p5 c5 q5 d5 t3 t4 f5 => back_sp ?_)
      refine bld_sp fun r' w6 e6 b6 f6 z6 => ?_
      have O6 := (O4.fr0 f5).fr0 f6
      have P6 := (P4.fr0 f5).fr0 f6
      have z4 := f04.size
      have z5 := f5.size
      refine app_sp (x := y) P6 b6 rfl one3 ⟨p5, c5, q5, d5, by rw [m1]; rfl, by rw [m2]; rfl, rfl, t3.fr0 f6, t4.fr0 f6⟩ (by omega) fun p7 c7 w7 f7 P7 hp7 => ?_
      have O7 : SlO (SpK 30) w7 p4 (al + 1) c4 (xs.take t ++ [y]) := O6.fr' f7 (fun b hb hb' => hap4 b hb hb') (fun b u us hb hu => by
        have := P6.ty b u us hb hu
        have e30 : u = 30 := by simpa [SpK] using this
        rw [e30]; simp [SpK])
      rw [addI_i64 (by omega) (by omega)]
      refine ⟨⟨by trivial, by trivial, by trivial, by trivial, by trivial, by trivial, t + 1, by omega, hlt, ?_, ?_, ha4, fun b hb => ?_, fun b hb hb' => ?_, ((f04.trans f5 fun _ h => h.elim).trans f6 fun _ h => h.elim).trans f7 fun b hb => .inr (hp b hb)⟩, ?_⟩
      · rw [take_snoc hy]; exact O7
      · have hy' : (xs.take K)[t]? = some y := by rw [List.getElem?_take, if_pos hk']; exact hy
        rw [take_snoc hy']; exact P7
      · rcases hp7 b hb with h | h
        · exact hp b h
        · omega
      · rcases hp7 b hb' with h | h
        · exact hap4 b hb h
        · have := O6.lt hb; omega
      · show xs.length - (((t : Nat) : Int) + 1).toNat < xs.length - ((t : Nat) : Int).toNat
        omega
    · rw [decide_eq_false (show ¬ ((t : Nat) : Int) < ((K : Nat) : Int) by omega), BIf_false, addI_i64 (by omega) (by omega)]
      refine ⟨⟨by trivial, by trivial, by trivial, by trivial, by trivial, by trivial, t + 1, by omega, hlt, ?_, ?_, ha4, hp, hap4, f04⟩, ?_⟩
      · rw [take_snoc hy]; exact O4
      · have e : (xs.take K).take (t + 1) = (xs.take K).take t := by rw [List.take_take, List.take_take]; congr 1; omega
        rw [e]; exact P4
      · show xs.length - (((t : Nat) : Int) + 1).toNat < xs.length - ((t : Nat) : Int).toNat
        omega
  · rw [decide_eq_false (show ¬ ((t : Nat) : Int) < ((xs.length : Nat) : Int) by omega), BIf_false]
    have hte : t = xs.length := by omega
    subst hte
    rw [List.take_length] at O1
    have eP : (xs.take K).take xs.length = xs.take K := by rw [List.take_take]; congr 1; omega
    rw [eP] at P1
    have B1 := b29.fr f1 id
    simp only [add_mk, Nat.zero_add]
    refine load_slice (i := 0) B1 rfl (load_slice (i := 1) B1 rfl (load_int (i := 2) B1 rfl ?_))
    refine bld_sp fun r w2 e2' b2 f2 z2 => ?_
    have B2 := B1.fr f2 id
    refine load_slice (i := 0) B2 rfl (load_slice (i := 1) B2 rfl (load_int (i := 2) B2 rfl ?_))
    refine bld_sp fun r' w3 e3' b3 f3 z3 => ?_
    have f03 := (f1.trans f2 fun _ h => h.elim).trans f3 fun _ h => h.elim
    have X1 : Sl (SpK 30) w3 (some ⟨r, 0, none⟩) [⟨lows, highs, iid⟩] := .inr ⟨r, 0, _, rfl, b2.fr f3 id, Rows.one (K := SpK 30) ⟨xp, xc, xq, xd, by rw [l1]; rfl, by rw [l2]; rfl, rfl, s1.fr0 f03, s2.fr0 f03⟩⟩
    have X2 : Sl (SpK 30) w3 (some ⟨r', 0, none⟩) [⟨lows, highs, iid⟩] := .inr ⟨r', 0, _, rfl, b3, Rows.one (K := SpK 30) ⟨xp, xc, xq, xd, by rw [l1]; rfl, by rw [l2]; rfl, rfl, s1.fr0 f03, s2.fr0 f03⟩⟩
    have O3 := ((O1.fr0 f2).fr0 f3).sl
    have P3 := ((P1.fr0 f2).fr0 f3).sl
    refine build_intro und39 g1 g2 (by omega) (by omega) (fill38g _ _ _ _ _ _ _ _ _ _ _ _ _ _ _ _ _ _ _ _ _ _ _ _ _ _ _ _ i38 g3) fun w4 f4 b4 z4 => ?_
    have tkl : (xs.take K).length = K := by rw [List.length_take]; omega
    have hpl' : pl = (xs.take K).length := by rw [hpl, tkl]; omega
    have hS : Sl StK w4 (some ⟨w3.heap.size, 0, none⟩) (seven xs K ⟨lows, highs, iid⟩) := by
      refine .inr ⟨_, 0, _, rfl, b4, ?_⟩
      have P4 := P3.fr0 f4
      have Z : (StK).P w4 (fun j => ([Value.int .i64 4, .slice none 0 0] : List Value)[j]?) ⟨4, []⟩ := ⟨none, 0, rfl, rfl, Sl.nil _ _ _⟩
      have Q : ∀ r, Sl (SpK 30) w4 (some ⟨r, 0, none⟩) [⟨lows, highs, iid⟩] → (StK).P w4 (fun j => ([Value.int .i64 3, .slice (some ⟨r, 0, none⟩) 1 1] : List Value)[j]?) ⟨3, [⟨lows, highs, iid⟩]⟩ := fun r h => ⟨_, _, rfl, rfl, h⟩
      exact Rows.cons (K := StK) (x := ⟨1, xs⟩) (us := [.int .i64 1, .slice ap al ac]) ⟨ap, ac, rfl, by rw [← hal]; rfl, O3.fr0 f4⟩ rfl
        (Rows.cons (K := StK) (x := ⟨3, [⟨lows, highs, iid⟩]⟩) (us := [.int .i64 3, .slice (some ⟨r, 0, none⟩) 1 1]) (Q r (X1.fr0 f4)) rfl
        (Rows.cons (K := StK) (x := ⟨2, xs.take K⟩) (us := [.int .i64 2, .slice pp pl pc]) ⟨pp, pc, rfl, by rw [← hpl']; rfl, P4⟩ rfl
        (Rows.cons (K := StK) (x := ⟨4, []⟩) (us := [.int .i64 4, .slice none 0 0]) Z rfl
        (Rows.cons (K := StK) (x := ⟨1, xs.take K⟩) (us := [.int .i64 1, .slice pp pl pc]) ⟨pp, pc, rfl, by rw [← hpl']; rfl, P4⟩ rfl
        (Rows.cons (K := StK) (x := ⟨3, [⟨lows, highs, iid⟩]⟩) (us := [.int .i64 3, .slice (some ⟨r', 0, none⟩) 1 1]) (Q r' (X2.fr0 f4)) rfl
        (Rows.one (K := StK) Z))))))
    have ok := seven_ok (k := K) (x := ⟨lows, highs, iid⟩) hn hdim ⟨l1, l2⟩ hnd (by omega)
    have hrun := seven_run (k := K) (n := n) (x := ⟨lows, highs, iid⟩) hnd
    have hsl : (seven xs K ⟨lows, highs, iid⟩).length = 7 := rfl
    rw [wrap_u64 (by omega) (by omega)]
    refine F8_call (F8_spec (ss := seven xs K ⟨lows, highs, iid⟩) hn1 (by omega) hS ok (by simp [seven]) fun w5 rp rc' hR f5 => back_slice ?_)
    rw [hsl, hrun] at *
    refine drw_intro fun w6 f6 z6 => ?_
    have hR6 := hR.fr0 f6
    have f06 := ((f03.trans f4 fun _ h => h.elim).trans f5 fun _ h => h.elim).trans f6 fun _ h => h.elim
    rw [show ((((7 : Nat) : Int)) != 7) = false from rfl, BIf_false]
    obtain ⟨q, o, rfl, p3, c3, u0, u1, _⟩ := hR6.get (i := 3) rfl
    obtain ⟨q', o', hqo, p6, c6, v0, v1, _⟩ := hR6.get (i := 6) rfl
    obtain ⟨rfl, rfl⟩ : q = q' ∧ o = o' := by simpa using hqo
    obtain ⟨q', o', hqo, p1, c1, m0, m1, _⟩ := hR6.get (i := 1) rfl
    obtain ⟨rfl, rfl⟩ : q = q' ∧ o = o' := by simpa using hqo
    obtain ⟨q', o', hqo, p5, c5, k0, k1, _⟩ := hR6.get (i := 5) rfl
    obtain ⟨rfl, rfl⟩ : q = q' ∧ o = o' := by simpa using hqo
    have u1 : w6.cell? ⟨q, o + 6 + 1, none⟩ = some (.int .u64 ((xs.length - K : Nat) : Int)) := u1
    have v1 : w6.cell? ⟨q, o + 12 + 1, none⟩ = some (.int .u64 ((xs.length : Nat) : Int)) := v1
    have m0 : w6.cell? ⟨q, o + 2, none⟩ = some (.slice p1 ((insAll [] xs).filter (ovP n ⟨lows, highs, iid⟩)).length c1) := m0
    have k0 : w6.cell? ⟨q, o + 10, none⟩ = some (.slice p5 ((insAll [] xs).filter (ovP n ⟨lows, highs, iid⟩)).length c5) := k0
    rw [show (3 : Int).toNat * 2 = 6 from rfl, show (6 : Int).toNat * 2 = 12 from rfl, show (1 : Int).toNat * 2 = 2 from rfl, show (5 : Int).toNat * 2 = 10 from rfl]
    simp only [NN_mk, add_mk]
    refine ⟨by decide, LoadT_int.2 ⟨_, u1, ?_⟩⟩
    rw [subI_i64 (by omega) (by omega), wrap_u64 (by omega) (by omega), show (((xs.length - K : Nat) : Int) != ((xs.length : Nat) : Int) - ((K : Nat) : Int)) = false by simp; omega, BIf_false]
    refine ⟨by decide, LoadT_int.2 ⟨_, v1, ?_⟩⟩
    rw [wrap_u64 (by omega) (by omega), show (((xs.length : Nat) : Int) != ((xs.length : Nat) : Int)) = false by simp, BIf_false]
    refine ⟨by decide, LoadT_slice.2 ⟨_, _, _, m0, ⟨by decide, LoadT_slice.2 ⟨_, _, _, k0, ?_⟩⟩⟩⟩
    rw [show (((((insAll [] xs).filter (ovP n ⟨lows, highs, iid⟩)).length : Nat) : Int) != ((((insAll [] xs).filter (ovP n ⟨lows, highs, iid⟩)).length : Nat) : Int)) = false by simp, BIf_false]
    have fl : ((insAll [] xs).filter (ovP n ⟨lows, highs, iid⟩)).length ≤ (insAll [] xs).length := List.length_filter_le _ _
    have hI : (insAll [] xs).length = xs.length := by rw [(insAll_perm xs []).length_eq]; rfl
    refine F3_L2_spec (a := ⟨(insAll [] xs).filter (ovP n ⟨lows, highs, iid⟩), 0⟩) hR6 rfl rfl rfl (Nat.lt_of_le_of_lt fl (by omega)) fun w7 f7 => hk w7 (f06.trans f7 fun _ h => h.elim)
/-- FnATBack. -/
theorem F3_spec {dims some' : Int} {p : Option Addr} {c : Nat} {rs : List (Nat → Int)} {x3 x4 x5 x6 x7 x8 x9 x10 : Int} (hd : 0 ≤ dims ∧ dims < 256) (hs : 0 ≤ some' ∧ some' < 256) (h : Mvs .i8 w p rs) (hk : ∀ w', Fr (fun _ => False) w w' → k (.bool true) w') :
    F3 k dims p rs.length c some' x3 x4 x5 x6 x7 x8 x9 x10 w := by
  unfold F3
  refine new_intro fun n11 w1 e1 b1 f1 z1 => ?_
  by_cases hbig : ((rs.length : Nat) : Int) > 2147483647
  · rw [decide_eq_true hbig, BIf_true]
    exact hk w1 f1
  rw [decide_eq_false hbig, BIf_false]
  refine Req_iff.2 ⟨by decide, bind_intro ?_⟩
  obtain ⟨n, hn, hn1, hn3⟩ : ∃ n : Nat, addI .i64 1 (remI (IntKind.wrap .i64 dims) 3) = ((n : Nat) : Int) ∧ 1 ≤ n ∧ n ≤ 3 := by
    refine ⟨1 + dims.toNat % 3, ?_, by omega, by omega⟩
    rw [wrap_i64 (by omega) (by omega), remI_eq (by omega), addI_i64 (by omega) (by omega)]
    omega
  rw [hn]
  refine F5_call (F5_spec hn1 hn3 (h.fr0 f1) (by omega) fun w2 p2 c2 xs S2 hcap hdim hnd hl f2 => back_slice ?_)
  by_cases h0 : xs.length < 2
  · rw [decide_eq_true (show ((xs.length : Nat) : Int) < 2 by omega), BIf_true]
    exact hk w2 (f1.trans f2 fun _ h => h.elim)
  rw [decide_eq_false (show ¬ ((xs.length : Nat) : Int) < 2 by omega), BIf_false]
  have b2 := b1.fr f2 id
  refine load_int (i := 0) b2 rfl (load_int (i := 1) b2 rfl (load_int (i := 2) b2 rfl (load_int (i := 3) b2 rfl (load_int (i := 4) b2 rfl (load_int (i := 5) b2 rfl (load_int (i := 6) b2 rfl (load_int (i := 7) b2 rfl ?_)))))))
  refine F7_call (F7_spec hn1 hn3 fun w3 p3 c3 q3 d3 lows highs l1 l2 s1 s2 f3 => back_sp ?_)
  refine F6_call (F6_spec hn1 hn3 l1 l2 s1 s2 fun w4 p4 c4 q4 d4 t1 t2 f4 => back_sp ?_)
  refine new_intro fun n29 w5 e5 b5 f5 z5 => ?_
  refine store_intro (i := 0) b5 (by simp) rfl fun w6 b6 f6 z6 => ?_
  refine store_intro (i := 1) b6 (by simp) rfl fun w7 b7 f7 z7 => ?_
  refine store_intro (i := 2) b7 (by simp) rfl fun w8 b8 f8 z8 => ?_
  have b8 : Blk w8 n29 30 [.slice p4 n c4, .slice q4 n d4, .int .u64 ((0 : Nat) : Int)] := b8
  have f48 : Fr (fun _ => False) w4 w8 := by
    have : Fr (fun b => b = n29) w4 w8 := ((f5.mono (S' := fun b => b = n29) fun _ h => h.elim).trans f6 fun _ h => .inl h).trans f7 (fun _ h => .inl h) |>.trans f8 fun _ h => .inl h
    exact this.mono fun b h => .inr (by have h : b = n29 := h; omega)
  have f28 : Fr (fun _ => False) w2 w8 := (f3.trans f4 fun _ h => h.elim).trans f48 fun _ h => h.elim
  rw [subI_i64 (by omega) (by omega)]
  refine Req_iff.2 ⟨by omega, bind_intro ?_⟩
  obtain ⟨K, hK, hK1⟩ : ∃ K : Nat, addI .i64 1 (remI (IntKind.wrap .i64 some') (((xs.length : Nat) : Int) - 1)) = ((K : Nat) : Int) ∧ K < xs.length := by
    have hpos : 0 < xs.length - 1 := by omega
    have hm := Nat.mod_lt some'.toNat hpos
    refine ⟨1 + some'.toNat % (xs.length - 1), ?_, by omega⟩
    rw [wrap_i64 (by omega) (by omega), remI_eq (by omega)]
    have e : some' % (((xs.length : Nat) : Int) - 1) = ((some'.toNat % (xs.length - 1) : Nat) : Int) := by
      rw [Int.natCast_emod, Int.toNat_of_nonneg hs.1]
      congr 1; omega
    rw [e, addI_i64 (by omega) (by omega)]; omega
  rw [hK]
  exact F3_L1_spec hn1 hn3 (S2.fr0 f28) hdim hnd hl hK1 l1 l2 (t1.fr0 f48) (t2.fr0 f48) b8 fun w9 f9 => hk w9 (((f1.trans f2 fun _ h => h.elim).trans f28 fun _ h => h.elim).trans f9 fun _ h => h.elim)
end
end Go.Proofs.Ythapmkjmfkmnoaa.E
