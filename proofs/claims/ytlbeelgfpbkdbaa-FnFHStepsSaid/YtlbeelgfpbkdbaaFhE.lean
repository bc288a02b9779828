/-
  FnFHSteps.
-/
import Derived.Test.YtlbeelgfpbkdbaaFhD
namespace Go.Proofs.Ytlbeelgfpbkdbaa.E
open Go
set_option linter.unusedSimpArgs false
set_option linter.unusedVariables false
set_option maxRecDepth 100000
set_option maxHeartbeats 4000000

def fl : Int := -262144
theorem inn_zero {Q : List (Option Int)} (h : cnt Q = 0) : inn Q = [] := List.length_eq_zero_iff.1 h
theorem cnt_append (Q R : List (Option Int)) : cnt (Q ++ R) = cnt Q + cnt R := by rw [cnt_inn, inn_append, List.length_append]; rfl
/-- The fillers come out first. -/
theorem after_fill (P : PS) {xs : List Int} (hx : ∀ x ∈ xs, fl < x) : ∀ (r : Nat) {R : List (Option Int)} {mi : Option Nat} {out : List FD}, (∀ o ∈ R, o = none ∨ o = some fl) → r = cnt R → MinAt (xs.map some ++ R) mi → xs.length + R.length ≤ 800 → (∀ R' mi' (o : List FD), inn R' = [] → MinAt (xs.map some ++ R') mi' → R'.length = R.length → P (xs.map some ++ R') mi' (out ++ o)) → After P (List.replicate r dq) (xs.map some ++ R) mi out
  | 0, R, mi, out, hR, hr, hm, hl, hk => by
    have := hk R mi [] (inn_zero hr.symm) hm rfl
    simpa [After] using this
  | r + 1, R, mi, out, hR, hr, hm, hl, hk => by
    refine ⟨⟨fit0, by simpa using hl, .inr (.inl ⟨.inr rfl, by rw [cnt_append]; omega⟩)⟩, fun Q' mi' sd hst => ?_⟩
    cases hst with
    | enq a b => cases a
    | look a b c => cases a
    | dec a b => cases a
    | @deq i v mi' a b c d =>
      have hle : v ≤ fl := by
        obtain ⟨j, u, hu⟩ := cnt_pos (Q := R) (by omega)
        have huf : u = fl := by
          rcases hR _ (List.mem_of_getElem? hu) with h | h
          · cases h
          · exact Option.some.inj h
        rcases hm with ⟨h, _⟩ | ⟨i', v', e1, e2, e3⟩
        · exact absurd (show (xs.map some ++ R)[xs.length + j]? = some (some u) by rw [List.getElem?_append_right (by simp)]; simpa using hu) (h _ _)
        · rw [b] at e1; cases e1
          rw [c] at e2; cases e2
          have := e3 (xs.length + j) u (by rw [List.getElem?_append_right (by simp)]; simpa using hu)
          omega
      have hil : xs.length ≤ i := by
        rcases Nat.lt_or_ge i xs.length with h | h
        · rw [List.getElem?_append_left (by simpa using h), List.getElem?_map] at c
          obtain ⟨y, hy, hyv⟩ := Option.map_eq_some_iff.1 c
          cases hyv
          have := hx v (List.mem_of_getElem? hy); omega
        · exact h
      have hset : (xs.map some ++ R).set i none = xs.map some ++ R.set (i - xs.length) none := by
        rw [List.set_append_right _ _ (by simpa using hil)]; simp
      have hc : R[i - xs.length]? = some (some v) := by
        rw [List.getElem?_append_right (by simpa using hil)] at c; simpa using c
      have hcnt : cnt (R.set (i - xs.length) none) = r := by
        have := (inn_set hc).length_eq
        rw [← cnt_inn, ← hr, List.length_cons, ← cnt_inn] at this; omega
      rw [hset] at d ⊢
      refine after_fill P hx r (fun o ho => ?_) hcnt.symm d (by simpa using hl) fun R' m' o h1 h2 h3 => ?_
      · rcases List.mem_or_eq_of_mem_set ho with h | h
        · exact hR o h
        · exact .inl h
      · have := hk R' m' (⟨i, v, cnt (xs.map some ++ R.set (i - xs.length) none)⟩ :: o) h1 h2 (by simpa using h3)
        simpa using this
theorem after_dec {P : PS} {ss : List FS} {ys : List Int} {R : List (Option Int)} {mi : Option Nat} {out : List FD} {k : Nat} {y v : Int} (hv : ys[k]? = some v) (hy : y < v) (hf : Fit y) (hl : ys.length + R.length ≤ 800)
    (hk : ∀ mi' sd, MinAt ((ys.set k y).map some ++ R) mi' → After P ss ((ys.set k y).map some ++ R) mi' (out ++ [sd])) : After P (⟨4, k, y⟩ :: ss) (ys.map some ++ R) mi out := by
  have hkl : k < ys.length := (List.getElem?_eq_some_iff.1 hv).1
  have hset : (ys.map some ++ R).set k (some y) = (ys.set k y).map some ++ R := by
    rw [List.set_append_left _ _ (by simpa using hkl), List.map_set]
  refine ⟨⟨hf, by simpa using hl, .inr (.inr ⟨rfl, v, by rw [List.getElem?_append_left (by simpa using hkl), List.getElem?_map, hv]; rfl, hy⟩)⟩, fun Q' mi' sd hst => ?_⟩
  cases hst with
  | enq a b => cases a
  | look a b c => cases a
  | deq a b c d => cases a
  | dec a b =>
    simp only at b ⊢
    rw [hset] at b ⊢
    exact hk _ _ b
def begins (ys : List Int) (n : Nat) : List FS := enqs (ys ++ List.replicate n fl) ++ List.replicate n dq
theorem begins_len (ys : List Int) (n : Nat) : (begins ys n).length = ys.length + n + n := by simp [begins, enqs]; omega
theorem after_begin {P : PS} {ys : List Int} {n : Nat} (hb : ∀ x ∈ ys, -1000000 ≤ x ∧ x < 1000000) (hf : ∀ x ∈ ys, fl < x) (hl : ys.length + n ≤ 700) (hk : ∀ R mi out, inn R = [] → R.length = n → MinAt (ys.map some ++ R) mi → P (ys.map some ++ R) mi out) : After P (begins ys n) [] none [] := by
  refine After.append (after_enq _ _ min0 (fun x hx => ?_) (by simp; omega) fun mi o h1 h2 => ?_)
  · rcases List.mem_append.1 hx with h | h
    · exact fit_small (hb x h)
    · rw [(List.mem_replicate.1 h).2]; unfold Fit fl; decide
  · have e : [] ++ (ys ++ List.replicate n fl).map some = ys.map some ++ List.replicate n (some fl) := by simp
    rw [e] at h1 ⊢
    refine after_fill P hf n (fun o ho => .inr (List.mem_replicate.1 ho).2) ?_ h1 (by simp; omega) fun R' mi' o h1 h2 h3 => hk _ _ _ h1 (by simpa using h3) h2
    rw [cnt_inn, show List.replicate n (some fl) = (List.replicate n fl).map some by simp, inn_somes]; simp
theorem after_to {ys : List Int} {n m k : Nat} {v x y : Int} {ss : List FS} (hss : ss = [⟨4, k, y⟩] ∨ ss = [⟨4, k, x⟩, ⟨4, k, y⟩]) (hm : m = ys.length) (hb : ∀ x ∈ ys, -1000000 ≤ x ∧ x < 1000000) (hf : ∀ x ∈ ys, fl < x) (hl : ys.length + n ≤ 700) (hv : ys[k]? = some v) (hxv : x < v) (hyx : y < x) (hy : Fit y) (hx : Fit x) :
    After (fun Q mi out => cnt Q = m ∧ inn Q = ys.set k y) (begins ys n ++ ss) [] none [] := by
  have hkl : k < ys.length := (List.getElem?_eq_some_iff.1 hv).1
  refine After.append (after_begin hb hf hl fun R mi out h1 h2 h3 => ?_)
  have fin : ∀ (zs : List Int), inn (zs.map some ++ R) = zs := fun zs => by rw [inn_append, inn_somes, h1, List.append_nil]
  rcases hss with rfl | rfl
  · refine after_dec hv (by omega) hy (by omega) fun mi' sd h4 => ?_
    exact ⟨by rw [cnt_inn, fin]; simp [hm], fin _⟩
  · refine after_dec hv hxv hx (by omega) fun mi' sd h4 => ?_
    refine after_dec (v := x) (by rw [List.getElem?_set_self hkl]) hyx hy (by simp; omega) fun mi2 sd2 h5 => ?_
    rw [List.set_set]
    exact ⟨by rw [cnt_inn, fin]; simp [hm], fin _⟩
/-- FnFHSteps. -/
theorem F5_spec {k : Value → W} {w : World} {p : Option Addr} {l c : Nat} {xs : List Int} {which x3 x4 first : Int} (hX : Shorts w p xs) (hl : l = xs.length) (hx : Small xs) (hw : 0 ≤ which ∧ which < 256) (h3 : 0 ≤ x3 ∧ x3 < 256) (h4 : 0 ≤ x4 ∧ x4 < 256) (hfi : 0 ≤ first ∧ first < 256)
    (hk : ∀ w', Fr (fun _ => False) w w' → k (.bool true) w') : F5 k p l c which x3 x4 first w := by
  unfold F5
  refine new_intro fun n6 w1 e1 b1 f1 z1 => ?_
  by_cases hbig : ((l : Nat) : Int) > 2147483647
  · rw [decide_eq_true hbig]; simp only [BIf_true]; exact hk _ f1
  rw [decide_eq_false hbig]
  simp only [BIf_false]
  refine F6_call (F6_spec (back_bool ?_))
  by_cases h30 : 0 < l ∧ l ≤ 30
  rotate_left
  · rw [decide_eq_false h30]; simp only [Bool.not_false, BIf_true]; exact hk _ f1
  rw [decide_eq_true h30]
  simp only [Bool.not_true, BIf_false]
  obtain ⟨wn, rfl⟩ := Int.eq_ofNat_of_zero_le hw.1
  obtain ⟨fn, rfl⟩ := Int.eq_ofNat_of_zero_le hfi.1
  refine ⟨by omega, by decide, ?_⟩
  have eK : remI (IntKind.wrap .i64 (wn : Nat)) ((l : Nat) : Int) = ((wn % l : Nat) : Int) := by
    rw [wrap_i64 (by omega) (by omega), remI_eq (by omega)]; exact (Int.natCast_emod wn l).symm
  have eN : addI .i64 1 (remI (IntKind.wrap .i64 (fn : Nat)) 6) = ((1 + fn % 6 : Nat) : Int) := by
    rw [wrap_i64 (by omega) (by omega), remI_eq (by omega), addI_i64 (by omega) (by omega)]; omega
  rw [eK, eN]
  refine bind_intro (bind_intro ?_)
  have hKl : wn % l < l := Nat.mod_lt _ h30.1
  generalize wn % l = K at hKl
  have hN6 : 1 + fn % 6 ≤ 6 := by omega
  generalize 1 + fn % 6 = n at hN6
  have X1 := hX.fr0 f1
  refine F8_call (F8_spec X1 hl h30.2 hx (by omega) fun p2 c2 w2 S2 N2 f2 => back_slice ?_)
  have e0 : xs.map (· + 0) = xs := by simp
  rw [e0] at S2
  have f02 := f1.trans f2 fun _ h => h.elim
  have N2' : NewS w.heap.size p2 := fun b hb => by have := N2 b hb; have := f1.size; omega
  -- the fillers in
  refine F5_L1_rule (fun lp ll lc by12 k13 n14 bp bn bc x16 x17 w' => lp = p ∧ ll = l ∧ by12 = ⟨n6, 0, none⟩ ∧ k13 = (K : Nat) ∧ n14 = (n : Nat) ∧ x16 = (n : Nat) ∧ ∃ i : Nat, x17 = i ∧ i ≤ n ∧ bn = l + i ∧ Steps w' bp (l + i) bc (enqs (xs ++ List.replicate i fl)) ∧ NewS w.heap.size bp ∧ Blk w' n6 39 [.int .u8 x3, .int .u8 x4] ∧ Fr (fun _ => False) w w')
    (fun _ _ _ _ _ _ _ _ _ x16 x17 _ => (x16 - x17).toNat) ?_ ⟨rfl, rfl, rfl, rfl, rfl, rfl, 0, rfl, Nat.zero_le _, rfl, by simpa using S2, N2', b1.fr f2 id, f02⟩
  rintro lp ll lc by12 k13 n14 bp bn bc x16 x17 wa ⟨elp, ell, rfl, rfl, rfl, rfl, i, rfl, hi, ebn, S, N, bb, f0⟩
  obtain rfl := elp.symm
  obtain rfl := ell.symm
  obtain rfl := ebn.symm
  unfold F5_L1
  by_cases hil : i < n
  · rw [decide_eq_true (by omega)]
    simp only [BIf_true]
    refine step1 (s := ⟨1, 0, fl⟩) fun q wb b2 fb eb => ?_
    refine steps_more (tt := [⟨1, 0, fl⟩]) (OwnN.fr S fb fun _ _ h => h) b2 rfl (by omega) fun p' c' wc oc hp' fc => ?_
    have f0b := f0.trans fb fun _ h => h.elim
    rw [add_one (by omega)]
    refine ⟨⟨(by trivial), (by trivial), (by trivial), (by trivial), (by trivial), (by trivial), i + 1, rfl, by omega, by omega, ?_, fun b hb => (hp' b hb).elim (N b) fun h => by have := f0b.size; omega, (bb.fr fb id).fr fc fun hb => ?_, f0b.trans fc fun b hb => .inr (N b hb)⟩, by omega⟩
    · rw [List.replicate_succ', ← List.append_assoc]
      simpa [enqs, Nat.add_assoc] using oc
    · obtain ⟨us, hu⟩ := OwnN.blk (OwnN.fr S fb fun _ _ h => h) hb
      exact absurd (hu.unique (bb.fr fb id)).1 (by decide)
  have : i = n := by omega
  subst this
  rw [decide_eq_false (by omega)]
  simp only [BIf_false]
  -- the fillers out
  refine F5_L2_rule (fun lp ll lc by22 k23 bp bn bc x25 x26 w' => lp = p ∧ ll = l ∧ by22 = ⟨n6, 0, none⟩ ∧ k23 = (K : Nat) ∧ x25 = (i : Nat) ∧ ∃ j : Nat, x26 = j ∧ j ≤ i ∧ bn = l + i + j ∧ Steps w' bp (l + i + j) bc (enqs (xs ++ List.replicate i fl) ++ List.replicate j dq) ∧ NewS w.heap.size bp ∧ Blk w' n6 39 [.int .u8 x3, .int .u8 x4] ∧ Fr (fun _ => False) w w')
    (fun _ _ _ _ _ _ _ _ x25 x26 _ => (x25 - x26).toNat) ?_ ⟨rfl, rfl, rfl, rfl, rfl, 0, rfl, Nat.zero_le _, rfl, by simpa using S, N, bb, f0⟩
  clear S N bb f0
  rintro lp ll lc by22 k23 bp bn bc x25 x26 wa ⟨elp, ell, rfl, rfl, rfl, j, rfl, hj, ebn, S, N, bb, f0⟩
  obtain rfl := elp.symm
  obtain rfl := ell.symm
  obtain rfl := ebn.symm
  unfold F5_L2
  by_cases hjl : j < i
  · rw [decide_eq_true (by omega)]
    simp only [BIf_true]
    refine step1 (s := dq) fun q wb b2 fb eb => ?_
    refine steps_more (tt := [dq]) (OwnN.fr S fb fun _ _ h => h) b2 rfl (by omega) fun p' c' wc oc hp' fc => ?_
    have f0b := f0.trans fb fun _ h => h.elim
    rw [add_one (by omega)]
    refine ⟨⟨(by trivial), (by trivial), (by trivial), (by trivial), (by trivial), j + 1, rfl, by omega, by omega, ?_, fun b hb => (hp' b hb).elim (N b) fun h => by have := f0b.size; omega, (bb.fr fb id).fr fc fun hb => ?_, f0b.trans fc fun b hb => .inr (N b hb)⟩, by omega⟩
    · rw [List.replicate_succ', ← List.append_assoc]
      exact oc
    · obtain ⟨us, hu⟩ := OwnN.blk (OwnN.fr S fb fun _ _ h => h) hb
      exact absurd (hu.unique (bb.fr fb id)).1 (by decide)
  have : j = i := by omega
  subst this
  rw [decide_eq_false (by omega)]
  simp only [BIf_false]
  refine drw_intro fun w3 f3 z3 => ?_
  have f03 := f0.trans f3 fun _ h => h.elim
  have b3 := bb.fr f3 id
  have S3 : Steps w3 bp (l + j + j) bc (begins xs j) := OwnN.fr S f3 fun _ _ h => h
  have hget : xs[K]? = some (xs[K]'(by omega)) := List.getElem?_eq_getElem _
  generalize xs[K]'(by omega) = v at hget
  have hv := hx v (List.mem_of_getElem? hget)
  obtain ⟨a, rfl, hc⟩ := hX.fr0 f03 K v hget
  simp only [NN_mk, Int.toNat_natCast]
  have c0 : w3.cell? ⟨n6, 0, none⟩ = some (.int .u8 x3) := by rw [b3.cell]; rfl
  have c1 : w3.cell? ⟨n6, 1, none⟩ = some (.int .u8 x4) := by rw [b3.cell]; rfl
  refine ⟨by omega, LoadT_int.2 ⟨_, hc, by decide, LoadT_int.2 ⟨x3, c0, ?_⟩⟩⟩
  refine ⟨by omega, LoadT_int.2 ⟨_, hc, by decide, LoadT_int.2 ⟨x3, c0, by decide, LoadT_int.2 ⟨x4, c1, ?_⟩⟩⟩⟩
  have ex : subI .i64 (subI .i64 (IntKind.wrap .i64 v) 1) (IntKind.wrap .i64 x3) = v - 1 - x3 := by
    rw [wrap_i64 (by omega) (by omega), wrap_i64 (by omega) (by omega), subI_i64 (a := v) (by omega) (by omega), subI_i64 (by omega) (by omega)]
  have ey : subI .i64 (subI .i64 (subI .i64 (IntKind.wrap .i64 v) 2) (IntKind.wrap .i64 x3)) (IntKind.wrap .i64 x4) = v - 2 - x3 - x4 := by
    rw [wrap_i64 (by omega) (by omega), wrap_i64 (by omega) (by omega), wrap_i64 (by omega) (by omega), subI_i64 (a := v) (by omega) (by omega), subI_i64 (a := v - 2) (by omega) (by omega), subI_i64 (by omega) (by omega)]
  rw [ex, ey]
  refine bind_intro (bind_intro ?_)
  generalize hX' : v - 1 - x3 = x
  generalize hY' : v - 2 - x3 - x4 = y
  have fx : Fit x := by unfold Fit; omega
  have fy : Fit y := by unfold Fit; omega
  have hb : ∀ x ∈ xs, -1000000 ≤ x ∧ x < 1000000 := fun x h => by have := hx x h; omega
  have hf : ∀ x ∈ xs, fl < x := fun x h => by have := hx x h; unfold fl; omega
  refine F12_call (F12_spec S3 (by omega) (by omega) fun p4 c4 w4 S4 N4 f4 => back_slice ?_)
  refine step1 (s := ⟨4, K, y⟩) fun q5 w5 b5 f5 e5 => ?_
  refine steps_more (tt := [⟨4, K, y⟩]) (OwnN.fr S4 f5 fun _ _ h => h) b5 rfl (by omega) fun p6 c6 w6 S6 hp6 f6 => ?_
  have f36 : Fr (fun _ => False) w3 w6 := (f4.trans f5 fun _ h => h.elim).trans f6 fun b hb => .inr (N4 b hb)
  refine F7_call (F7_spec _ (fun u => u = xs.set K y) S6 (by omega) (by omega) h30.1 (by omega) (after_to (x := x) (.inl rfl) hl hb hf (by omega) hget (by omega) (by omega) fy fx) fun p7 c7 w7 u o hu E7 l7 O7 N7 f7 => back_sb ?_)
  subst hu
  have f37 := f36.trans f7 fun _ h => h.elim
  refine F12_call (F12_spec (OwnN.fr S3 f37 fun _ _ h => h) (by omega) (by omega) fun p8 c8 w8 S8 N8 f8 => back_slice ?_)
  refine step2 (s := ⟨4, K, x⟩) (t := ⟨4, K, y⟩) fun q9 w9 b9 f9 e9 => ?_
  refine steps_more (tt := [⟨4, K, x⟩, ⟨4, K, y⟩]) (OwnN.fr S8 f9 fun _ _ h => h) b9 rfl (by omega) fun pa ca wa' Sa hpa fa => ?_
  have f7a : Fr (fun _ => False) w7 wa' := (f8.trans f9 fun _ h => h.elim).trans fa fun b hb => .inr (N8 b hb)
  refine F7_call (F7_spec _ (fun u => u = xs.set K y) Sa (by omega) (by omega) h30.1 (by omega) (after_to (x := x) (.inr rfl) hl hb hf (by omega) hget (by omega) (by omega) fy fx) fun pb cb wb u o' hu Eb lb Ob Nb fb => back_sb ?_)
  subst hu
  simp only [BIf_true]
  have f7b := f7a.trans fb fun _ h => h.elim
  refine F10_call (F10_spec (O7.fr f7b fun _ _ h => h).ints Ob.ints l7.symm lb.symm (by omega) fun wc fc => back_bool ?_)
  rw [decide_eq_true (Ext.det E7 Eb)]
  exact hk _ (((f03.trans f37 fun _ h => h.elim).trans f7b fun _ h => h.elim).trans fc fun _ h => h.elim)
end Go.Proofs.Ytlbeelgfpbkdbaa.E
