/-
  Interval trees: deepFound; FnATOrder.
-/
import Derived.Test.YthapmkjmfkmnoaaAtW
namespace Go.Proofs.Ythapmkjmfkmnoaa.E
open Go
set_option linter.unusedSimpArgs false
set_option linter.unusedVariables false
set_option maxRecDepth 100000
set_option maxHeartbeats 8000000

section
variable {w : World} {k : Value → W}
theorem back_df {f : Option Addr → Nat → Nat → Int → Bool → W} {p : Option Addr} {l c : Nat} {n : Int} {b : Bool} (h : f p l c n b w) : Back (.tup [(.one .slice), (.one (.int .u64)), (.one .bool)]) f (.returned (.tuple #[.slice p l c, .int .u64 n, .bool b])) w := ⟨((p, l, c), n, b, ()), rfl, h⟩
/-- The numbers of what was found are listed. -/
theorem F9_L3_spec {lp : Option Addr} {lc K : Nat} {al : List Ans} {a z : Ans} (hA : Sl AnK w lp al) (hK : al.length = K + 2) (hK9 : K < 1000) (ha : al[K]? = some a) (hz : al[K + 1]? = some z) (hl : a.spans.length < 1000)
    (hk : ∀ w' ip ic, Sl U64K w' ip (a.spans.map Sp.id) → Fr (fun _ => False) w w' → k (.tuple #[.slice ip (a.spans.map Sp.id).length ic, .int .u64 ((z.n : Nat) : Int), .bool true]) w') :
    Loop [.slice, .slice, (.int .i64)] (F9_L3 k) lp al.length lc none 0 0 0 w := by
  obtain ⟨i28, g1, g2, g3, g4⟩ := inf28
  refine F9_L3_rule (I := fun lp' ll lc' ip il ic i w' => lp' = lp ∧ ll = al.length ∧ lc' = lc ∧ ∃ t : Nat, i = ((t : Nat) : Int) ∧ t ≤ a.spans.length ∧ il = t ∧ SlO U64K w' ip il ic ((a.spans.take t).map Sp.id) ∧ (∀ b, bl ip b → w.heap.size ≤ b) ∧ Fr (fun _ => False) w w')
    (μ := fun lp' ll lc' ip il ic i w' => a.spans.length - i.toNat) ?_ ⟨rfl, rfl, rfl, 0, rfl, Nat.zero_le _, rfl, SlO.nil _ _, (fun b ⟨_, h, _⟩ => by cases h), Fr.refl _ _⟩
  rintro lp' ll lc' ip il ic i w1 ⟨e1, e2, e3, t, rfl, ht, rfl, O1, hip, f1⟩
  obtain rfl := e1.symm
  obtain rfl := e3.symm
  unfold F9_L3
  rw [e2]
  have hz1 := f1.size
  have s2 : subI .i64 ((al.length : Nat) : Int) 2 = ((K : Nat) : Int) := by rw [subI_i64 (by omega) (by omega)]; omega
  have s1 : subI .i64 ((al.length : Nat) : Int) 1 = ((K + 1 : Nat) : Int) := by rw [subI_i64 (by omega) (by omega)]; omega
  rw [s2, s1]
  obtain ⟨q, o, rfl, ap, ac, c0, c1, hS⟩ := hA.get ha
  obtain ⟨q', o', hqo, zp, zc, d0, d1, _⟩ := hA.get hz
  obtain ⟨rfl, rfl⟩ : q = q' ∧ o = o' := by simpa using hqo
  have c0 : w.cell? ⟨q, o + K * 2, none⟩ = some (.slice ap a.spans.length ac) := c0
  have d1 : w.cell? ⟨q, o + (K + 1) * 2 + 1, none⟩ = some (.int .u64 ((z.n : Nat) : Int)) := d1
  simp only [NN_mk, Int.toNat_natCast, add_mk]
  refine ⟨by omega, LoadT_slice.2 ⟨_, _, _, cell_kp c0 f1, ?_⟩⟩
  by_cases hlt : il < a.spans.length
  · rw [decide_eq_true (show ((il : Nat) : Int) < ((a.spans.length : Nat) : Int) by omega), BIf_true]
    refine ⟨by omega, LoadT_slice.2 ⟨_, _, _, cell_kp c0 f1, ?_⟩⟩
    have hy : a.spans[il]? = some a.spans[il] := List.getElem?_eq_getElem hlt
    generalize a.spans[il] = y at hy
    obtain ⟨r, or', rfl, yp, yc, yq, yd, y0, y1, y2, y3, y4⟩ := hS.get hy
    have y2 : w.cell? ⟨r, or' + il * 3 + 2, none⟩ = some (.int .u64 ((y.id : Nat) : Int)) := y2
    simp only [NN_mk, Int.toNat_natCast, add_mk]
    refine ⟨by omega, LoadT_int.2 ⟨_, cell_kp y2 f1, ?_⟩⟩
    refine build_intro und43 g1 g2 (by omega) (by omega) (fill28 _ i28 g3) fun w2 f2 b2 z2 => ?_
    refine SlO.append (K := U64K) und43 g1 g2 g3 (by decide) rfl g4 (by simp [U64K]) (O1.fr0 f2) b2 (ys := [y.id]) (Rows.one rfl) rfl rfl (fun u hu => ?_) (by omega) fun p' c' w3 f3 O3 hp3 => ?_
    · simp only [List.mem_cons, List.not_mem_nil, or_false] at hu
      subst hu; rfl
    rw [addI_i64 (by omega) (by omega)]
    refine ⟨⟨by trivial, by trivial, by trivial, il + 1, by omega, hlt, by trivial, ?_, fun b hb => ?_, (f1.trans f2 fun _ h => h.elim).trans f3 fun b hb => .inr (hip b hb)⟩, ?_⟩
    · rw [take_snoc hy, List.map_append]; exact O3
    · rcases hp3 b hb with h | h
      · exact hip b h
      · omega
    · show a.spans.length - (((il : Nat) : Int) + 1).toNat < a.spans.length - ((il : Nat) : Int).toNat
      omega
  · rw [decide_eq_false (show ¬ ((il : Nat) : Int) < ((a.spans.length : Nat) : Int) by omega), BIf_false]
    have : il = a.spans.length := by omega
    subst this
    rw [List.take_length] at O1
    refine drw_intro fun w2 f2 z2 => ?_
    have f02 := f1.trans f2 fun _ h => h.elim
    refine ⟨by omega, LoadT_int.2 ⟨_, cell_kp d1 f02, ?_⟩⟩
    have := hk w2 ip ic ((O1.fr0 f2).sl) f02
    rw [List.length_map] at this
    exact this
/-- deepFound. -/
theorem F9_spec {n cc xc xd iid : Nat} {cp xp xq : Option Addr} {calls : List (List Sp)} {lows highs : List Int} (hn1 : 1 ≤ n) (hn : n ≤ 3) (hC : Sl SlK w cp calls) (l1 : lows.length = n) (l2 : highs.length = n) (s1 : Sl IntK w xp lows) (s2 : Sl IntK w xq highs) (hdim : ∀ x ∈ calls.flatten, Dim n x) (hnd : (calls.flatten.map Sp.id).Nodup) (hl : calls.flatten.length < 100) (hcl : calls.length < 100)
    (hk : ∀ w' ip ic (ids : List Nat), Sl U64K w' ip ids → ids = ((insAll [] calls.flatten).filter (ovP n ⟨lows, highs, iid⟩)).map Sp.id → Fr (fun _ => False) w w' → k (.tuple #[.slice ip ids.length ic, .int .u64 (((insAll [] calls.flatten).length : Nat) : Int), .bool true]) w') :
    F9 k ((n : Nat) : Int) cp calls.length cc xp n xc xq n xd ((iid : Nat) : Int) w := by
  obtain ⟨i38, g1, g2, g3, g4⟩ := inf38
  unfold F9
  refine new_intro fun n6 w0 e0 b0 f0 z0 => ?_
  have n6l := b0.lt
  refine F9_L1_rule (I := fun d' cp' cl' cc' x' sp sl sc i w' => d' = ((n : Nat) : Int) ∧ cp' = cp ∧ cl' = calls.length ∧ cc' = cc ∧ x' = ⟨n6, 0, none⟩ ∧ ∃ t : Nat, i = ((t : Nat) : Int) ∧ t ≤ calls.length ∧ sl = t ∧ SlO StK w' sp sl sc ((calls.take t).map stp1) ∧ (∀ b, bl sp b → w.heap.size ≤ b) ∧ Blk w' n6 32 [.slice xp n xc, .slice xq n xd, .int .u64 ((iid : Nat) : Int)] ∧ Fr (fun _ => False) w w')
    (μ := fun d' cp' cl' cc' x' sp sl sc i w' => calls.length - i.toNat) ?_ ⟨rfl, rfl, rfl, rfl, rfl, 0, rfl, Nat.zero_le _, rfl, SlO.nil _ _, (fun b ⟨_, h, _⟩ => by cases h), b0, f0⟩
  rintro d' cp' cl' cc' x' sp sl sc i w1 ⟨rfl, e1, e2, e3, rfl, t, rfl, ht, rfl, O1, hsp, B1, f1⟩
  obtain rfl := e1.symm
  obtain rfl := e3.symm
  unfold F9_L1
  rw [e2]
  have hz1 := f1.size
  by_cases hlt : sl < calls.length
  · rw [decide_eq_true (show ((sl : Nat) : Int) < ((calls.length : Nat) : Int) by omega), BIf_true]
    have hx : calls[sl]? = some calls[sl] := List.getElem?_eq_getElem hlt
    have hmem := List.getElem_mem hlt
    generalize calls[sl] = xs at hx hmem
    refine new_intro fun n13 w2 e2' b2 f2 z2 => ?_
    refine store_intro (i := 0) b2 (by simp) rfl fun w3 b3 f3 z3 => ?_
    refine store_intro (i := 1) b3 (by simp) rfl fun w4 b4 f4 z4 => ?_
    have b4 : Blk w4 n13 38 [.int .i64 1, .slice none 0 0] := b4
    have f24 : Fr (fun b => b = n13) w2 w4 := f3.trans f4 fun _ h => .inl h
    have f14 : Fr (fun _ => False) w1 w4 := ((f2.mono (S' := fun b => b = n13) fun _ h => h.elim).trans f24 fun _ h => .inl h).mono fun b h => .inr (by have h : b = n13 := h; omega)
    have O4 := O1.fr0 f14
    have f04 := f1.trans f14 fun _ h => h.elim
    have hsub : ∀ x ∈ xs, x ∈ calls.flatten := fun x hx => List.mem_flatten.2 ⟨xs, hmem, hx⟩
    have hxl : xs.length ≤ calls.flatten.length := (List.sublist_flatten_of_mem hmem).length_le
    have B4 := B1.fr f14 id
    refine F9_L2_spec (wb := w) hn1 hn hC hx (by omega) (fun x h => hdim x (hsub x h)) (by omega) (by omega) (by omega) (fun b hb => by have := O1.lt hb; omega) f04 b4 O4 hsp (by omega) fun w5 sp' sc' O5 hsp' f05 f45 => ?_
    have T5 : Tys (fun b => bl sp b ∨ b = n13) w4 [38] := fun b u us hb hu => by
      rcases hb with hb | rfl
      · have := O4.ty b u us hb hu
        simpa [StK] using this
      · rw [(hu.unique b4).1]; decide
    refine ⟨⟨by trivial, by trivial, by trivial, by trivial, by trivial, sl + 1, by trivial, hlt, by trivial, ?_, hsp', blk_ty B4 f45 T5 (by decide), f05⟩, ?_⟩
    · rw [take_snoc hx, List.map_append]; exact O5
    · show calls.length - (((sl + 1 : Nat) : Int)).toNat < calls.length - ((sl : Nat) : Int).toNat
      omega
  · rw [decide_eq_false (show ¬ ((sl : Nat) : Int) < ((calls.length : Nat) : Int) by omega), BIf_false]
    have : sl = calls.length := by omega
    subst this
    rw [List.take_length] at O1
    simp only [add_mk, Nat.zero_add]
    refine load_slice (i := 0) B1 rfl (load_slice (i := 1) B1 rfl (load_int (i := 2) B1 rfl ?_))
    refine F6_call (F6_spec hn1 hn l1 l2 (s1.fr0 f1) (s2.fr0 f1) fun w2 p2 c2 q2 d2 t1 t2 f2 => back_sp ?_)
    refine bld_sp fun r w3 e3 b3 f3 z3 => ?_
    have hx1 : Sl (SpK 30) w3 (some ⟨r, 0, none⟩) [⟨lows, highs, iid⟩] := .inr ⟨r, 0, _, rfl, b3, Rows.one (K := SpK 30) ⟨p2, c2, q2, d2, by rw [l1]; rfl, by rw [l2]; rfl, rfl, t1.fr0 f3, t2.fr0 f3⟩⟩
    refine build_intro und39 g1 g2 (by omega) (by omega) (fill38b _ _ _ _ _ _ _ _ i38 g3) fun w4 f4 b4 z4 => ?_
    have O4 := ((O1.fr0 f2).fr0 f3).fr0 f4
    have f04 := ((f1.trans f2 fun _ h => h.elim).trans f3 fun _ h => h.elim).trans f4 fun _ h => h.elim
    refine SlO.append (K := StK) und39 g1 g2 g3 (by decide) rfl g4 (by simp [StK]) O4 b4 (ys := [⟨3, [⟨lows, highs, iid⟩]⟩, ⟨4, []⟩]) ?_ rfl rfl (fun u hu => ?_) (by omega) fun p' c' w5 f5 O5 hp5 => ?_
    · exact Rows.cons (K := StK) (x := ⟨3, [⟨lows, highs, iid⟩]⟩) (us := [.int .i64 3, .slice (some ⟨r, 0, none⟩) 1 1]) (vs := [.int .i64 4, .slice none 0 0]) ⟨_, _, rfl, rfl, hx1.fr0 f4⟩ rfl (Rows.one (K := StK) (x := ⟨4, []⟩) ⟨none, 0, rfl, rfl, Sl.nil _ _ _⟩)
    · simp only [List.mem_cons, List.not_mem_nil, or_false] at hu
      rcases hu with rfl | rfl | rfl | rfl <;> rfl
    have f05 : Fr (fun _ => False) w w5 := f04.trans f5 fun b hb => .inr (hsp b hb)
    have hrun : runA n [] (calls.map stp1 ++ [⟨3, [⟨lows, highs, iid⟩]⟩, ⟨4, []⟩]) = runA n [] (calls.map stp1) ++ [⟨(insAll [] calls.flatten).filter (ovP n ⟨lows, highs, iid⟩), 0⟩, ⟨[], (insAll [] calls.flatten).length⟩] := by
      rw [runA_app, runL_calls]; rfl
    have hsh : ∀ x ∈ calls.flatten, Shrt x := fun x hx => (hdim x hx).shrt hn
    have p := insAll_perm calls.flatten []
    have hlen : (insAll [] calls.flatten).length = calls.flatten.length := by rw [p.length_eq]; rfl
    have hndI : ((insAll [] calls.flatten).map Sp.id).Nodup := ((p.map Sp.id).nodup_iff).2 (by simpa using hnd)
    have ok : okR [] (calls.map stp1 ++ [⟨3, [⟨lows, highs, iid⟩]⟩, ⟨4, []⟩]) := by
      refine okR_app (okR_calls hsh (by simpa using hnd) (by show 0 + _ < 500; omega)) ?_
      rw [runL_calls]
      refine ⟨⟨fun x hx => ?_, by simp, by omega, hndI, .inr (.inr (.inl ⟨rfl, by simp⟩))⟩, ⟨⟨fun x hx => (by cases hx), by decide, ?_, ?_, .inr (.inr (.inr rfl))⟩, trivial⟩⟩
      · rw [List.mem_singleton] at hx
        subst hx
        exact Dim.shrt (n := n) ⟨l1, l2⟩ hn
      · show (insAll [] calls.flatten).length < 500; omega
      · exact hndI
    generalize hss : calls.map stp1 ++ [⟨3, [⟨lows, highs, iid⟩]⟩, ⟨4, []⟩] = ss at O5 hrun ok
    have hsl : calls.length + 2 = ss.length := by rw [← hss]; simp
    rw [hsl]
    rw [wrap_u64 (by omega) (by omega)]
    refine F8_call (F8_spec hn1 (by omega) O5.sl ok (by omega) fun w6 rp rc' hR f6 => back_slice ?_)
    rw [show (((ss.length : Nat) : Int) != ((ss.length : Nat) : Int)) = false by simp, BIf_false]
    have hral : (runA n [] ss).length = ss.length := runA_length n ss []
    have hrl : (runA n [] (calls.map stp1)).length = calls.length := by rw [runA_length, List.length_map]
    have hg1 : (runA n [] ss)[calls.length]? = some ⟨(insAll [] calls.flatten).filter (ovP n ⟨lows, highs, iid⟩), 0⟩ := by
      rw [hrun, List.getElem?_append_right (by omega), hrl, Nat.sub_self]; rfl
    have hg2 : (runA n [] ss)[calls.length + 1]? = some ⟨[], (insAll [] calls.flatten).length⟩ := by
      rw [hrun, List.getElem?_append_right (by omega), hrl, Nat.add_sub_cancel_left]; rfl
    have fl : ((insAll [] calls.flatten).filter (ovP n ⟨lows, highs, iid⟩)).length ≤ (insAll [] calls.flatten).length := List.length_filter_le _ _
    rw [← hral]
    refine F9_L3_spec hR (by omega) (by omega) hg1 hg2 (Nat.lt_of_le_of_lt fl (by omega)) fun w7 ip ic hI f7 => ?_
    exact hk w7 ip ic _ hI rfl ((f05.trans f6 fun _ h => h.elim).trans f7 fun _ h => h.elim)
/-- The three ways hold the same intervals. -/
theorem insAll_perm_eq {a b : List Sp} (hp : a.Perm b) (hn : (a.map Sp.id).Nodup) : insAll [] a = insAll [] b := by
  refine kls_uniq (insAll_sorted List.Pairwise.nil (by simpa using hn)) (insAll_sorted List.Pairwise.nil (by simpa using ((hp.map Sp.id).nodup_iff).1 hn)) ?_
  refine (insAll_perm a []).trans (List.Perm.trans ?_ (insAll_perm b []).symm)
  simpa using hp
/-- FnATOrder. -/
theorem F4_spec {dims : Int} {p : Option Addr} {c : Nat} {rs : List (Nat → Int)} {x3 x4 x5 x6 x7 x8 x9 x10 : Int} (hd : 0 ≤ dims ∧ dims < 256) (h : Mvs .i8 w p rs) (hk : ∀ w', Fr (fun _ => False) w w' → k (.bool true) w') :
    F4 k dims p rs.length c x3 x4 x5 x6 x7 x8 x9 x10 w := by
  obtain ⟨i25, g1, g2, g3, g4⟩ := inf25
  unfold F4
  refine new_intro fun n11 w1 e1 b1 f1 z1 => ?_
  by_cases hbig : ((rs.length : Nat) : Int) > 2147483647
  · rw [decide_eq_true hbig, BIf_true]
    exact hk w1 f1
  rw [decide_eq_false hbig, BIf_false]
  refine Req_iff.2 ⟨by decide, bind_intro ?_⟩
  obtain ⟨n, hn, hn1, hn3⟩ : ∃ n : Nat, addI .i64 1 (remI (IntKind.wrap .i64 dims) 3) = ((n : Nat) : Int) ∧ 1 ≤ n ∧ n ≤ 3 := by
    refine ⟨1 + dims.toNat % 3, ?_, by omega, by omega⟩
    rw [wrap_i64 (by omega) (by omega), remI_eq (by omega), addI_i64 (by omega) (by omega)]
    omega
  rw [hn]
  refine F5_call (F5_spec hn1 hn3 (h.fr0 f1) (by omega) fun w2 p2 c2 xs S2 hcap hdim hnd hl f2 => back_slice ?_)
  by_cases h0 : xs.length = 0
  · rw [show (((xs.length : Nat) : Int) == 0) = true by rw [h0]; rfl, BIf_true]
    exact hk w2 (f1.trans f2 fun _ h => h.elim)
  rw [show (((xs.length : Nat) : Int) == 0) = false from beq_eq_false_iff_ne.2 (by omega), BIf_false]
  have b2 := b1.fr f2 id
  refine load_int (i := 0) b2 rfl (load_int (i := 1) b2 rfl (load_int (i := 2) b2 rfl (load_int (i := 3) b2 rfl (load_int (i := 4) b2 rfl (load_int (i := 5) b2 rfl (load_int (i := 6) b2 rfl (load_int (i := 7) b2 rfl ?_)))))))
  refine F7_call (F7_spec hn1 hn3 fun w3 p3 c3 q3 d3 lows highs l1 l2 s1 s2 f3 => back_sp ?_)
  refine new_intro fun n25 w4 e4 b4 f4 z4 => ?_
  refine store_intro (i := 0) b4 (by simp) rfl fun w5 b5 f5 z5 => ?_
  refine store_intro (i := 1) b5 (by simp) rfl fun w6 b6 f6 z6 => ?_
  refine store_intro (i := 2) b6 (by simp) rfl fun w7 b7 f7 z7 => ?_
  have b7 : Blk w7 n25 32 [.slice p3 n c3, .slice q3 n d3, .int .u64 ((0 : Nat) : Int)] := b7
  have f37 : Fr (fun _ => False) w3 w7 := by
    have : Fr (fun b => b = n25) w3 w7 := ((f4.mono (S' := fun b => b = n25) fun _ h => h.elim).trans f5 fun _ h => .inl h).trans f6 (fun _ h => .inl h) |>.trans f7 fun _ h => .inl h
    exact this.mono fun b h => .inr (by have h : b = n25 := h; omega)
  refine build_intro und46 g1 g2 (by omega) (by omega) (fill25 _ _ _ i25 g3) fun w8 f8 b8 z8 => ?_
  have b8' := b7.fr f8 id
  have f28 : Fr (fun _ => False) w2 w8 := (f3.trans f37 fun _ h => h.elim).trans f8 fun _ h => h.elim
  have f08 : Fr (fun _ => False) w w8 := (f1.trans f2 fun _ h => h.elim).trans f28 fun _ h => h.elim
  have S8 := S2.fr0 f28
  have s18 := (s1.fr0 f37).fr0 f8
  have s28 := (s2.fr0 f37).fr0 f8
  have C1 : Sl SlK w8 (some ⟨w7.heap.size, 0, none⟩) [xs] := .inr ⟨_, 0, _, rfl, b8, Rows.one (K := SlK) ⟨p2, c2, rfl, S8⟩⟩
  refine load_slice (i := 0) b8' rfl (load_slice (i := 1) b8' rfl (load_int (i := 2) b8' rfl ?_))
  have fl1 : ([xs] : List (List Sp)).flatten = xs := by simp
  refine F9_call (F9_spec (calls := [xs]) (iid := 0) hn1 hn3 C1 l1 l2 s18 s28 (by rw [fl1]; exact hdim) (by rw [fl1]; exact hnd) (by rw [fl1]; omega) (by simp) fun w9 ip1 ic1 ids1 I1 hids1 f9 => back_df ?_)
  rw [fl1] at hids1 ⊢
  refine drw_intro fun w10 f10 z10 => ?_
  have f8_10 := f9.trans f10 fun _ h => h.elim
  have b10 := b8'.fr f8_10 id
  refine load_slice (i := 0) b10 rfl (load_slice (i := 1) b10 rfl (load_int (i := 2) b10 rfl ?_))
  refine F10_call (F10_spec (back := false) (S8.fr0 f8_10) hcap (by omega) fun w11 p11 c11 calls2 C2 hcl2 hfl2 f11 => back_slice ?_)
  have f8_11 := f8_10.trans f11 fun _ h => h.elim
  have b11 := b8'.fr f8_11 id
  refine chk (i := 0) b11 rfl (chk (i := 1) b11 rfl (chk (i := 2) b11 rfl ?_))
  rw [if_neg (by decide)] at hfl2
  refine F9_call (F9_spec (iid := 0) hn1 hn3 C2 l1 l2 (s18.fr0 f8_11) (s28.fr0 f8_11) (by rw [hfl2]; exact hdim) (by rw [hfl2]; exact hnd) (by rw [hfl2]; omega) (by omega) fun w12 ip2 ic2 ids2 I2 hids2 f12 => back_df ?_)
  rw [hfl2] at hids2 ⊢
  refine drw_intro fun w13 f13 z13 => ?_
  have f8_13 := (f8_11.trans f12 fun _ h => h.elim).trans f13 fun _ h => h.elim
  have b13 := b8'.fr f8_13 id
  refine load_slice (i := 0) b13 rfl (load_slice (i := 1) b13 rfl (load_int (i := 2) b13 rfl ?_))
  refine F10_call (F10_spec (back := true) (S8.fr0 f8_13) hcap (by omega) fun w14 p14 c14 calls3 C3 hcl3 hfl3 f14 => back_slice ?_)
  have f8_14 := f8_13.trans f14 fun _ h => h.elim
  have b14 := b8'.fr f8_14 id
  refine chk (i := 0) b14 rfl (chk (i := 1) b14 rfl (chk (i := 2) b14 rfl ?_))
  rw [if_pos rfl] at hfl3
  have hrev := insAll_perm_eq (List.reverse_perm xs).symm hnd
  have hdr : ∀ x ∈ xs.reverse, Dim n x := fun x hx => hdim x (List.mem_reverse.1 hx)
  have hndr : (xs.reverse.map Sp.id).Nodup := (((List.reverse_perm xs).map Sp.id).nodup_iff).2 hnd
  refine F9_call (F9_spec (iid := 0) hn1 hn3 C3 l1 l2 (s18.fr0 f8_14) (s28.fr0 f8_14) (by rw [hfl3]; exact hdr) (by rw [hfl3]; exact hndr) (by rw [hfl3, List.length_reverse]; omega) (by omega) fun w15 ip3 ic3 ids3 I3 hids3 f15 => back_df ?_)
  rw [hfl3, ← hrev] at hids3
  rw [hfl3, ← hrev]
  have hlen : (insAll [] xs).length = xs.length := by rw [(insAll_perm xs []).length_eq]; rfl
  rw [BIf_true, BIf_true, BIf_true, hlen, wrap_u64 (by omega) (by omega)]
  rw [show (((xs.length : Nat) : Int) == ((xs.length : Nat) : Int)) = true by simp, BIf_true, BIf_true, BIf_true]
  rw [← hids1] at hids2 hids3
  rw [hids2] at I2
  rw [hids3] at I3
  rw [hids2, hids3]
  have il : ids1.length ≤ xs.length := by rw [hids1, List.length_map, ← hlen]; exact List.length_filter_le _ _
  have J1 := (((((I1.fr0 f10).fr0 f11).fr0 f12).fr0 f13).fr0 f14).fr0 f15
  have J2 := ((I2.fr0 f13).fr0 f14).fr0 f15
  refine F11_call (F11_spec J1 J2 (by omega) fun w16 f16 => back_bool ?_)
  rw [BIf_true]
  refine F11_call (F11_spec (J1.fr0 f16) (I3.fr0 f16) (by omega) fun w17 f17 => back_bool ?_)
  exact hk w17 ((((f08.trans f8_14 fun _ h => h.elim).trans f15 fun _ h => h.elim).trans f16 fun _ h => h.elim).trans f17 fun _ h => h.elim)
end
end Go.Proofs.Ythapmkjmfkmnoaa.E
