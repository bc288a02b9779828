/-
  A sorted list and the same list turned about: the law, walked; the search, and the law of the shift.
-/
import Derived.Test.YtpjjnckgjohaeaaIS2
import Derived.Test.YtpjjnckgjohaeaaRow
namespace Go.Proofs.Ytpjjnckgjohaeaa.E
open Go Go.Sort
set_option linter.unusedSimpArgs false
set_option linter.unusedVariables false
set_option maxRecDepth 100000
set_option maxHeartbeats 2000000

theorem F4_spec {k : Value → W} {w : World} {p : Option Addr} {l c : Nat} {xs : List Int} (hX : Shorts w p xs) (hl : l = xs.length) (hx : I16 xs)
    (hk : ∀ w', Fr (fun _ => False) w w' → k (.bool true) w') : F4 k p l c w := by
  subst hl
  unfold F4
  refine BIf_intro (fun _ => hk w (Fr.refl _ _)) fun hb => ?_
  refine F7_call (F7_spec (back_bool ?_) fun h0 h30 => back_bool ?_)
  · exact hk w (Fr.refl _ _)
  simp only [Bool.not_true, BIf_false]
  refine F9_call (F9_spec hX rfl (by omega) hx (by omega) fun q1 c1 w1 o1 f1 => back_slice ?_)
  have hm : ∀ ys : List Int, ys.map (· + 0) = ys := fun ys => by simp
  rw [hm] at o1
  refine F8_call (F8_spec o1.ints rfl h0 (by omega) fun q2 c2 w2 o2 f2 => back_slice ?_)
  have f02 := f1.trans f2 fun _ h => h.elim
  refine F12_call (F12_spec (hX.fr0 f02) rfl h0 (by omega) fun q3 c3 w3 o3 f3 => back_slice ?_)
  refine F9_call (F9_spec o3.shorts (by simp) (by simp; omega) (fun x h => hx x (List.mem_reverse.1 h)) (by omega) fun q4 c4 w4 o4 f4 => back_slice ?_)
  rw [hm] at o4
  refine F8_call (F8_spec o4.ints (by simp) (by simp; omega) (by simp; omega) fun q5 c5 w5 o5 f5 => back_slice ?_)
  rw [show srt xs.reverse = srt xs from srt_eq (List.reverse_perm xs)] at o5
  rw [show (((xs.length : Nat) : Int) == ((xs.length : Nat) : Int)) = true by simp]
  simp only [BIf_true]
  have f25 : Fr (fun _ => False) w2 w5 := (f3.trans f4 fun _ h => h.elim).trans f5 fun _ h => h.elim
  have f05 := f02.trans f25 fun _ h => h.elim
  have o25 := o2.fr f25 fun _ _ h => h
  have hls := srt_len xs
  refine F13_call (F13_spec o25.ints hls.symm (by omega) (srt_asc xs) fun w6 f6 => back_bool ?_)
  simp only [BIf_true]
  have o26 := o25.fr f6 fun _ _ h => h
  refine F14_call (F14_spec o26.ints (o5.fr f6 fun _ _ h => h).ints hls.symm hls.symm (by omega) fun w7 f7 => back_bool ?_)
  rw [decide_eq_true rfl]
  simp only [BIf_true]
  have o27 := o26.fr f7 fun _ _ h => h
  refine F8_call (F8_spec o27.ints hls.symm (by omega) (by omega) fun q8 c8 w8 o8 f8 => back_slice ?_)
  rw [show srt (srt xs) = srt xs from srt_eq (srt_perm xs)] at o8
  refine F14_call (F14_spec o8.ints (o27.fr f8 fun _ _ h => h).ints hls.symm hls.symm (by omega) fun w9 f9 => back_bool ?_)
  rw [decide_eq_true rfl]
  exact hk w9 ((((f05.trans f6 fun _ h => h.elim).trans f7 fun _ h => h.elim).trans f8 fun _ h => h.elim).trans f9 fun _ h => h.elim)

/-! ## The search -/
/-- Where x stands among ascending numbers. -/
def At (xs : List Int) (x : Int) (r : Nat) : Prop := r ≤ xs.length ∧ (∀ i (h : i < xs.length), i < r → xs[i] < x) ∧ ∀ i (h : i < xs.length), r ≤ i → x ≤ xs[i]
theorem At.unique {xs : List Int} {x d : Int} {r s : Nat} (h : At xs x r) (g : At (xs.map (· + d)) (x + d) s) : r = s := by
  obtain ⟨h1, h2, h3⟩ := h
  obtain ⟨g1, g2, g3⟩ := g
  simp only [List.length_map, List.getElem_map] at g1 g2 g3
  rcases Nat.lt_trichotomy r s with e | e | e
  · have := h3 r (by omega) (Nat.le_refl _); have := g2 r (by omega) e; omega
  · exact e
  · have := g3 s (by omega) (Nat.le_refl _); have := h2 s (by omega) e; omega
theorem callV_enter {P : Program} {f : FuncId} {args caps : Array Value} {w : World} (h : ∀ args w, (callFunc f args).run P w = .ok (.enter f args) w) :
    (callV (.func (.func f) #[] caps) args).run P w = .ok (.enter f (args ++ caps)) w := by
  have e := h (args ++ caps) w
  simp [callV, Deferred.ofValue, invoke, e]
theorem ent35 : ∀ args w, (callFunc 35 args).run Try.prog w = .ok (.enter 35 args) w := enters_of Try.func35 (by kernel_rfl) rfl
theorem F34_spec {k : Value → W} {w : World} {n3 n4 : Nat} {p : Option Addr} {c : Nat} {xs : List Int} {x : Int} (hB3 : Blk w n3 45 [.slice p xs.length c]) (hB4 : Blk w n4 2 [.int .i64 x]) (hX : Ints w p xs) (hb : xs.length < 100000) (hs : xs.Pairwise (· ≤ ·))
    (hk : ∀ r w', At xs x r → Fr (fun _ => False) w w' → k (.int .i64 (r : Nat)) w') : F34 k (xs.length : Nat) (.func (.func 35) #[] #[.pointer (some ⟨n3, 0, none⟩), .pointer (some ⟨n4, 0, none⟩)]) w := by
  unfold F34
  refine F34_L1_rule (fun f i4 j5 w' => f = .func (.func 35) #[] #[.pointer (some ⟨n3, 0, none⟩), .pointer (some ⟨n4, 0, none⟩)] ∧ ∃ i j : Nat, i4 = i ∧ j5 = j ∧ i ≤ j ∧ j ≤ xs.length ∧ (∀ t (h : t < xs.length), t < i → xs[t] < x) ∧ (∀ t (h : t < xs.length), j ≤ t → x ≤ xs[t]) ∧ Fr (fun _ => False) w w')
    (fun _ i4 j5 _ => (j5 - i4).toNat) ?_ ⟨rfl, 0, xs.length, rfl, rfl, by omega, by omega, fun t h h' => by omega, fun t h h' => by omega, Fr.refl _ _⟩
  rintro f i4 j5 w2 ⟨hf, i, j, rfl, rfl, hij, hj, hL, hR, f2⟩
  obtain rfl := hf.symm
  unfold F34_L1
  by_cases hlt : i < j
  rotate_left
  · have : i = j := by omega
    subst this
    rw [decide_eq_false (by omega)]
    simp only [BIf_false]
    exact hk i w2 ⟨hj, hL, hR⟩ f2
  rw [decide_eq_true (by omega)]
  simp only [BIf_true]
  have eh : IntKind.wrap .i64 (shrI .u64 (IntKind.wrap .u64 (addI .i64 (i : Nat) (j : Nat))) 1) = (((i + j) / 2 : Nat) : Int) := by
    rw [addI_i64 (by omega) (by omega), wrap_u64 (by omega) (by omega)]
    have : shrI .u64 ((i : Int) + j) 1 = (((i + j) / 2 : Nat) : Int) := by
      unfold shrI
      rw [show min 1 IntKind.u64.bits = 1 from rfl]
      rw [Int.fdiv_eq_ediv_of_nonneg _ (by decide)]
      omega
    rw [this, wrap_i64 (by omega) (by omega)]
  rw [eh]
  refine bind_intro ?_
  have hh : (i + j) / 2 < xs.length := by omega
  refine NextT_enter (callV_enter ent35) ?_
  refine F35_calls ?_
  unfold F35
  refine drw_intro fun w3 f3 z3 => ?_
  have f03 := f2.trans f3 fun _ h => h.elim
  have g1 : xs[(i + j) / 2]? = some (xs[(i + j) / 2]) := List.getElem?_eq_getElem _
  have hLm : ∀ t (h : t < xs.length), t < (i + j) / 2 → xs[t] ≤ xs[(i + j) / 2] := fun t h h' => List.pairwise_iff_getElem.1 hs _ _ _ _ h'
  have hRm : ∀ t (h : t < xs.length), (i + j) / 2 ≤ t → xs[(i + j) / 2] ≤ xs[t] := fun t h h' => by
    rcases Nat.lt_or_ge ((i + j) / 2) t with e | e
    · exact List.pairwise_iff_getElem.1 hs _ _ _ _ e
    · have : t = (i + j) / 2 := by omega
      subst this; exact Int.le_refl _
  generalize hv : xs[(i + j) / 2] = v at *
  obtain ⟨a, rfl, c1⟩ := hX.fr0 f03 _ v g1
  refine load_slice (hB3.fr f03 id) rfl ?_
  simp only [NN_mk, Req_iff, LoadT_int, Int.toNat_natCast]
  refine ⟨by omega, v, c1, x, by rw [(hB4.fr f03 id).cell]; rfl, ?_⟩
  refine back_bool ?_
  by_cases hvx : x ≤ v
  · rw [decide_eq_true (show v ≥ x from hvx)]
    simp only [Bool.not_true, BIf_false]
    exact ⟨⟨(by trivial), i, (i + j) / 2, rfl, rfl, by omega, by omega, hL, fun t h h' => Int.le_trans hvx (hRm t h h'), f03⟩, by omega⟩
  · rw [decide_eq_false (show ¬ v ≥ x from hvx)]
    simp only [Bool.not_false, BIf_true]
    rw [add_one (by omega)]
    refine ⟨⟨(by trivial), (i + j) / 2 + 1, j, rfl, rfl, by omega, by omega, fun t h h' => ?_, hR, f03⟩, by omega⟩
    rcases Nat.lt_or_ge t ((i + j) / 2) with e | e
    · have := hLm t h e; omega
    · have ht : t = (i + j) / 2 := by omega
      have := hLm; subst ht; rw [hv]; omega
theorem F24_spec {k : Value → W} {w : World} {p : Option Addr} {l c : Nat} {xs : List Int} {x : Int} (hX : Ints w p xs) (hl : l = xs.length) (hb : xs.length < 100000) (hs : xs.Pairwise (· ≤ ·))
    (hk : ∀ r w', At xs x r → Fr (fun _ => False) w w' → k (.int .i64 (r : Nat)) w') : F24 k p l c x w := by
  subst hl
  unfold F24
  refine new_intro fun n3 w3 e3 b3 f3 z3 => ?_
  refine new_intro fun n4 w4 e4 b4 f4 z4 => ?_
  have f04 := f3.trans f4 fun _ h => h.elim
  have b34 := b3.fr f4 id
  refine load_slice b34 rfl ?_
  refine F34_call (F34_spec b34 b4 (hX.fr0 f04) hb hs fun r w5 hr f5 => back_int ?_)
  exact hk r w5 hr (f04.trans f5 fun _ h => h.elim)
theorem F10_spec {k : Value → W} {w : World} {p : Option Addr} {l c : Nat} {xs : List Int} {x : Int} (hX : Ints w p xs) (hl : l = xs.length) (h0 : 0 < xs.length) (hb : xs.length < 100000) (hs : xs.Pairwise (· ≤ ·))
    (hk : ∀ r w', At xs x r → Fr (fun _ => False) w w' → k (.int .i64 (r : Nat)) w') : F10 k p l c x w := by
  subst hl
  unfold F10
  refine F22_call (F22_spec hX rfl h0 hb fun q c' w1 o1 hq f1 => back_slice ?_)
  refine F24_call (F24_spec o1.ints rfl hb hs fun r w2 hr f2 => back_int ?_)
  exact hk r w2 hr (f1.trans f2 fun _ h => h.elim)
theorem F11_spec {k : Value → W} {w : World} {p : Option Addr} {l c : Nat} {xs : List Int} {x : Int} (hX : Ints w p xs) (hl : l = xs.length) (hb : xs.length < 100000) (hs : xs.Pairwise (· ≤ ·)) (hx : x ∈ xs)
    (hk : ∀ w', Fr (fun _ => False) w w' → k (.bool true) w') : F11 k p l c x w := by
  subst hl
  have h0 : 0 < xs.length := List.length_pos_of_mem hx
  unfold F11
  refine F22_call (F22_spec hX rfl h0 hb fun q c' w1 o1 hq f1 => back_slice ?_)
  refine F25_call ?_
  unfold F25
  refine F24_call (F24_spec o1.ints rfl hb hs fun r w2 hr f2 => back_int ?_)
  obtain ⟨j, hj, hjx⟩ := List.getElem_of_mem hx
  obtain ⟨h1, h2, h3⟩ := hr
  have hrj : r ≤ j := by
    rcases Nat.lt_or_ge j r with e | e
    · have := h2 j hj e; omega
    · exact e
  have hrl : r < xs.length := by omega
  have hv : xs[r] = x := by
    have h4 := h3 r hrl (Nat.le_refl _)
    rcases Nat.lt_or_ge r j with e | e
    · have := List.pairwise_iff_getElem.1 hs r j hrl hj e; omega
    · have : r = j := by omega
      subst this; exact hjx
  rw [show (((r : Nat) : Int) == ((xs.length : Nat) : Int)) = false by simp; omega]
  simp only [BIf_false]
  obtain ⟨a, rfl, c1⟩ := (o1.fr f2 fun _ _ h => h).ints r x (by rw [List.getElem?_eq_getElem hrl, hv])
  simp only [NN_mk, Req_iff, LoadT_int, Int.toNat_natCast]
  refine ⟨by omega, x, c1, back_bool ?_⟩
  rw [show (x == x) = true by simp]
  exact hk w2 (f1.trans f2 fun _ h => h.elim)
theorem srt_shift (xs : List Int) (d : Int) : srt (xs.map (· + d)) = (srt xs).map (· + d) := by
  refine asc_eq (srt_asc _) ?_ ((srt_perm _).trans ((srt_perm xs).symm.map _))
  rw [List.pairwise_map]
  exact (srt_asc xs).imp fun h => by omega
theorem F3_spec {k : Value → W} {w : World} {p : Option Addr} {l c : Nat} {xs : List Int} {x d : Int} (hX : Shorts w p xs) (hl : l = xs.length) (hx : I16 xs) (h1 : -32768 ≤ x ∧ x < 32768) (h2 : -32768 ≤ d ∧ d < 32768)
    (hk : ∀ w', Fr (fun _ => False) w w' → k (.bool true) w') : F3 k p l c x d w := by
  subst hl
  unfold F3
  refine BIf_intro (fun _ => hk w (Fr.refl _ _)) fun hb => ?_
  refine F7_call (F7_spec (back_bool ?_) fun h0 h30 => back_bool ?_)
  · exact hk w (Fr.refl _ _)
  simp only [Bool.not_true, BIf_false]
  rw [wrap_i64 (n := d) (by omega) (by omega), wrap_i64 (n := x) (by omega) (by omega)]
  refine F9_call (F9_spec hX rfl (by omega) hx (by omega) fun q1 c1 w1 o1 f1 => back_slice ?_)
  have hm : xs.map (· + 0) = xs := by simp
  rw [hm] at o1
  refine F8_call (F8_spec o1.ints rfl h0 (by omega) fun q2 c2 w2 o2 f2 => back_slice ?_)
  have f02 := f1.trans f2 fun _ h => h.elim
  refine F9_call (F9_spec (hX.fr0 f02) rfl (by omega) hx h2 fun q3 c3 w3 o3 f3 => back_slice ?_)
  refine F8_call (F8_spec o3.ints (by simp) (by simp; omega) (by simp; omega) fun q4 c4 w4 o4 f4 => back_slice ?_)
  rw [srt_shift] at o4
  refine drw_intro fun w5 f5 z5 => ?_
  have f25 : Fr (fun _ => False) w2 w5 := (f3.trans f4 fun _ h => h.elim).trans f5 fun _ h => h.elim
  have f05 := f02.trans f25 fun _ h => h.elim
  have oa := o2.fr f25 fun _ _ h => h
  have ob := o4.fr f5 fun _ _ h => h
  have hls := srt_len xs
  have hasc := srt_asc xs
  have hasc2 : ((srt xs).map (· + d)).Pairwise (· ≤ ·) := by rw [List.pairwise_map]; exact hasc.imp fun h => by omega
  have hmem : ∀ y ∈ srt xs, -32768 ≤ y ∧ y < 32768 := fun y hy => hx y ((srt_perm xs).mem_iff.1 hy)
  rw [show (((xs.length : Nat) : Int) != ((xs.length : Nat) : Int)) = false by simp]
  simp only [BIf_false]
  have hsmem : ∀ y ∈ xs, y ∈ srt xs := fun y hy => (srt_perm xs).mem_iff.2 hy
  have hg0 : xs[0]? = some (xs[0]'h0) := List.getElem?_eq_getElem _
  have hm0 := List.getElem_mem (l := xs) h0
  generalize xs[0]'h0 = x0 at hg0 hm0
  have hb0 := hx x0 hm0
  generalize srt xs = s at *
  have hs0 : s[0]? = some (s[0]'(by omega)) := List.getElem?_eq_getElem _
  have hsm := hmem _ (List.getElem_mem (l := s) (show 0 < s.length by omega))
  generalize s[0]'(by omega) = s0 at hs0 hsm
  obtain ⟨a, rfl, ca⟩ := oa.ints 0 s0 hs0
  obtain ⟨b, rfl, cb⟩ := ob.ints 0 (s0 + d) (by rw [List.getElem?_map, hs0]; rfl)
  have hz : (0 : Int).toNat = 0 := rfl
  simp only [NN_mk, Req_iff, LoadT_int, hz]
  refine ⟨by omega, _, cb, by omega, _, ca, ?_⟩
  rw [addI_i64 (by omega) (by omega)]
  rw [show (s0 + d != s0 + d) = false by simp]
  simp only [BIf_false]
  refine F10_call (F10_spec oa.ints hls.symm (by omega) (by omega) hasc fun r1 w6 hr1 f6 => back_int ?_)
  rw [addI_i64 (by omega) (by omega)]
  refine F10_call (F10_spec (ob.fr f6 fun _ _ h => h).ints (by simp [hls]) (by simp; omega) (by simp; omega) hasc2 fun r2 w7 hr2 f7 => back_int ?_)
  have hr := hr1.unique hr2
  subst hr
  rw [show (((r1 : Nat) : Int) == ((r1 : Nat) : Int)) = true by simp]
  simp only [BIf_true]
  have f57 := f6.trans f7 fun _ h => h.elim
  have f07 := f05.trans f57 fun _ h => h.elim
  obtain ⟨e, rfl, ce⟩ := hX.fr0 f07 0 x0 hg0
  simp only [NN_mk, Req_iff, LoadT_int]
  refine ⟨by omega, x0, ce, ?_⟩
  rw [wrap_i64 (by omega) (by omega)]
  refine F11_call (F11_spec (oa.fr f57 fun _ _ h => h).ints hls.symm (by omega) hasc (hsmem x0 hm0) fun w8 f8 => back_bool ?_)
  simp only [BIf_true]
  have f08 := f07.trans f8 fun _ h => h.elim
  obtain ⟨e', he', ce'⟩ := hX.fr0 f08 0 x0 hg0
  cases he'
  refine ⟨by omega, LoadT_int.2 ⟨x0, ce', ?_⟩⟩
  rw [wrap_i64 (by omega) (by omega), addI_i64 (by omega) (by omega)]
  refine F11_call (F11_spec ((ob.fr f57 fun _ _ h => h).fr f8 fun _ _ h => h).ints (by simp [hls]) (by simp; omega) hasc2 (List.mem_map.2 ⟨x0, hsmem x0 hm0, rfl⟩) fun w9 f9 => back_bool ?_)
  exact hk w9 (f08.trans f9 fun _ h => h.elim)
theorem shorts_of {w : World} {a : Option Addr} {len cap : Nat} {zs : List Int} (h : IsRow .i16 w a len cap zs) : Shorts w a (zs.take len) ∧ len = (zs.take len).length ∧ I16 (zs.take len) := by
  rcases h with ⟨rfl, rfl, rfl, rfl⟩ | ⟨x, rfl, h1, h2, h3, h4, h5⟩
  · exact ⟨fun i x hx => by simp at hx, rfl, fun x hx => by simp at hx⟩
  · refine ⟨fun i y hy => ⟨x, rfl, ?_⟩, by simp; omega, fun y hy => wf_i16 (h5 y (List.mem_of_mem_take hy))⟩
    have hi : i < (zs.take len).length := (List.getElem?_eq_some_iff.1 hy).1
    simp only [List.length_take] at hi
    rw [h4 i (by omega)]
    rw [List.getElem?_take, if_pos (by omega)] at hy
    rw [List.getD_eq_getElem?_getD, hy]; rfl
end Go.Proofs.Ytpjjnckgjohaeaa.E
