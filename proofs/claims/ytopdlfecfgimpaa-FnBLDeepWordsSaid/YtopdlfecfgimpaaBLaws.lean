/-
  The laws FnBLDeepLocations, FnBLDeepOrder, FnBLDeepWords, walked. The straight parts were printed by this session's own program aw.py.
-/
import Derived.Test.YtopdlfecfgimpaaBloom3
import Derived.Test.YtopdlfecfgimpaaRanges
namespace Go.Proofs.Ytopdlfecfgimpaa.E
open Go
set_option linter.unusedSimpArgs false
set_option linter.unusedVariables false
set_option maxRecDepth 100000
set_option maxHeartbeats 2000000

theorem back_filt {f : Int → Int → Option Addr → Nat → Nat → W} {a b : Int} {p : Option Addr} {l c : Nat} {w : World} (h : f a b p l c w) :
    Back (.s (.agg [(.int .u64), (.int .u64), .slice])) f (.returned (.agg #[.int .u64 a, .int .u64 b, .slice p l c])) w := ⟨(a, b, (p, l, c), ()), rfl, h⟩
theorem back_filt_bool {f : Int → Int → Option Addr → Nat → Nat → Bool → W} {a b : Int} {p : Option Addr} {l c : Nat} {t : Bool} {w : World} (h : f a b p l c t w) :
    Back (.tup [(.agg [(.int .u64), (.int .u64), .slice]), (.one .bool)]) f (.returned (.tuple #[.agg #[.int .u64 a, .int .u64 b, .slice p l c], .bool t])) w := ⟨(a, b, (p, l, c), t, ()), rfl, h⟩
theorem cnt_any {n i : Nat} {f : Nat → Bool} (hi : i < n) (h : f i = true) : 0 < cnt n f := by
  rcases Nat.eq_zero_or_pos (cnt n f) with h0 | h0
  · rw [cnt_eq_zero] at h0; rw [h0 i hi] at h; cases h
  · exact h0
/-- What was read is read behind a store to a block that is new. -/
theorem ReadsW.frN {w w' : World} {p : Option Addr} {l n N : Nat} (h : ReadsW w p l) (f : Fr (fun x => x = n) w w') (hN : l = 0 ∨ ∀ x, bl p x → x < N) (hn : N ≤ n) : ReadsW w' p l := by
  rcases hN with h0 | hN
  · exact .inl h0
  · exact h.st f fun x hx _ e => by have := hN x hx; omega
theorem ReadsW.lt {w : World} {p : Option Addr} {l : Nat} (h : ReadsW w p l) : l = 0 ∨ ∀ x, bl p x → x < w.heap.size := by
  rcases h with h | ⟨a, rfl, hb, _⟩
  · exact .inl h
  · exact .inr fun x hx => by obtain ⟨_, h1, h2⟩ := hx; cases h1; exact h2 ▸ hb
theorem TB.lt {w : World} {p : Option Addr} {l : Nat} {b : Nat → Int} (h : TB w p l b) (h0 : 0 < l) (x : Nat) (hx : bl p x) : x < w.heap.size := by
  rcases h with h | ⟨a, rfl, hb, _⟩
  · omega
  · obtain ⟨_, h1, h2⟩ := hx; cases h1; exact h2 ▸ hb
theorem plus_hit {g : Nat → Bool} {M K : Nat} {r : H4} : hit (plus g M K r) M K r = true := hit_iff.2 fun i hi => by
  unfold plus; rw [Bool.or_eq_true, decide_eq_true_iff]; exact .inr ⟨i, hi, rfl⟩
theorem plus_mono {g : Nat → Bool} {M K : Nat} {r : H4} {j : Nat} (h : g j = true) : plus g M K r j = true := by unfold plus; rw [h]; rfl
theorem plus_plus {g : Nat → Bool} {M K : Nat} {r s : H4} (j : Nat) : plus (plus g M K r) M K s j = plus (plus g M K s) M K r j := by
  unfold plus; rw [Bool.or_assoc, Bool.or_assoc]; congr 1; exact Bool.or_comm _ _
theorem plus_again {g : Nat → Bool} {M K : Nat} {r : H4} (j : Nat) : plus (plus g M K r) M K r j = plus g M K r j := by
  unfold plus; rw [Bool.or_assoc, Bool.or_self]
theorem plus_congr {g g2 : Nat → Bool} {M K : Nat} {r : H4} (h : ∀ j, g j = g2 j) (j : Nat) : plus g M K r j = plus g2 M K r j := by
  unfold plus; rw [h]
theorem again3 {f a g i : Nat → Bool} {M K : Nat} {r s : H4} (ha : ∀ j, a j = plus f M K r j) (hg : ∀ j, g j = plus a M K s j) (hi : ∀ j, i j = plus g M K r j) (j : Nat) : g j = i j := by
  rw [hi]
  have h1 := ha j
  have h2 := hg j
  unfold plus at *
  cases hR : decide (∃ i, i < K ∧ j = loc r i % M) with
  | false => rw [Bool.or_false]
  | true => rw [hR, Bool.or_true] at h1; rw [h1, Bool.true_or] at h2; rw [h2]; rfl
theorem hit_congr {g g2 : Nat → Bool} {M K : Nat} {r : H4} (h : ∀ j, g j = g2 j) : hit g M K r = hit g2 M K r := by
  have : g = g2 := funext h
  rw [this]

theorem F9_spec {m kk l lc lx cx : Nat} {p px : Option Addr} {bx : Nat → Int} {k : Value → W} {w : World} (hm : m < 65536) (hkk : kk < 256) (hr : ReadsW w p l) (hx : TB w px lx bx) (hxb : ∀ i, i < lx → 0 ≤ bx i ∧ bx i < 256) (hxc : lx ≤ cx)
    (hk : ∀ w', Fr (fun _ => False) w w' → k (.bool true) w') : F9 k m kk p l lc px lx cx w := by
  unfold F9
  refine BIf_intro (fun hc => hk _ (Fr.refl _ _)) (fun hc => ?_)
  have hl1 := of_decide_eq_false hc
  refine BIf_intro (fun hc => hk _ (Fr.refl _ _)) (fun hc => ?_)
  have hl2 := of_decide_eq_false hc
  refine F37_call (C37 hm hkk hr (by omega) fun M K ws_f p_f c_f w1 hM0 hM1 hK1 hlen_f eM eK hs_f f1 => back_filt ?_)
  have fr := f1
  have z1 := f1.size
  replace hr := hr.fr0 f1
  replace hx := hx.fr0 f1
  refine F38_call (C38 hx hxc fun p_x l_x c_x hd_x hc_x h80_x hle_x => back_slice ?_)
  have b_hd_x := TB.lt hd_x
  refine new_intro fun n9 w2 e2 bn9 f2 z2 => ?_
  replace fr := fr.trans f2 fun _ h => h.elim
  replace hs_f := hs_f.fr0 f2
  replace hd_x := hd_x.fr0 f2
  refine store_intro bn9 (by simp) rfl fun w3 bn9 f3 z3 => ?_
  replace fr := fr.trans f3 fun x (e : x = n9) => .inr (by omega)
  replace hs_f := hs_f.st f3 (by omega)
  replace hd_x := hd_x.frS f3 fun h0 x hx (e : x = n9) => by have := b_hd_x h0 x hx; omega
  refine store_intro bn9 (by simp) rfl fun w4 bn9 f4 z4 => ?_
  replace fr := fr.trans f4 fun x (e : x = n9) => .inr (by omega)
  replace hs_f := hs_f.st f4 (by omega)
  replace hd_x := hd_x.frS f4 fun h0 x hx (e : x = n9) => by have := b_hd_x h0 x hx; omega
  refine store_intro bn9 (by simp) rfl fun w5 bn9 f5 z5 => ?_
  replace fr := fr.trans f5 fun x (e : x = n9) => .inr (by omega)
  replace hs_f := hs_f.st f5 (by omega)
  replace hd_x := hd_x.frS f5 fun h0 x hx (e : x = n9) => by have := b_hd_x h0 x hx; omega
  refine load_int bn9 rfl ?_
  refine F39_call (C39 (by omega) (by omega) hd_x hc_x fun lq lc w6 hls zlq zlq2 f6 => back_slice ?_)
  replace fr := fr.trans f6 fun _ h => h.elim
  have z6 := f6.size
  replace hs_f := hs_f.fr0 f6
  replace hd_x := hd_x.fr0 f6
  replace bn9 := bn9.fr f6 id
  refine load_int bn9 rfl ?_
  refine load_int bn9 rfl ?_
  refine load_slice bn9 rfl ?_
  refine F40_call (C40 (g := wbit ws_f) hM0 (by omega) (by omega) (by omega) (by omega) hs_f (fun _ => rfl) (by omega) hd_x hc_x fun w7 f7 => back_bool ?_)
  replace fr := fr.trans f7 fun _ h => h.elim
  have z7 := f7.size
  replace hs_f := hs_f.fr0 f7
  replace hd_x := hd_x.fr0 f7
  replace hls := hls.fr0 f7
  replace bn9 := bn9.fr f7 id
  refine load_int bn9 rfl ?_
  refine load_int bn9 rfl ?_
  refine load_slice bn9 rfl ?_
  refine F41_call (C41 (g := wbit ws_f) hM0 (by omega) (by omega) (by omega) (by omega) hs_f (fun _ => rfl) hls (by rw [locs_length]; omega) fun w8 f8 => back_bool ?_)
  rw [locs_hit]
  replace fr := fr.trans f8 fun _ h => h.elim
  have z8 := f8.size
  replace hs_f := hs_f.fr0 f8
  replace hd_x := hd_x.fr0 f8
  replace hls := hls.fr0 f8
  replace bn9 := bn9.fr f8 id
  rw [beq_self_eq_true, BIf_true]
  refine load_int bn9 rfl ?_
  refine load_int bn9 rfl ?_
  refine load_slice bn9 rfl ?_
  refine str_intro hd_x (fun i hi => hxb i (by omega)) (fun _ => by cases p_x with | none => exact .inl rfl | some a => exact .inr ⟨a, rfl⟩) fun s1 hstr1 => ?_
  refine F42_call (C42 (g := wbit ws_f) hM0 (by omega) (by omega) (by omega) (by omega) hs_f (fun _ => rfl) (by omega) hstr1 fun w9 f9 => back_bool ?_)
  replace fr := fr.trans f9 fun _ h => h.elim
  have z9 := f9.size
  replace hs_f := hs_f.fr0 f9
  replace hd_x := hd_x.fr0 f9
  replace hls := hls.fr0 f9
  replace bn9 := bn9.fr f9 id
  rw [beq_self_eq_true, BIf_true]
  refine load_int bn9 rfl ?_
  refine load_int bn9 rfl ?_
  refine load_slice bn9 rfl ?_
  refine str_intro hd_x (fun i hi => hxb i (by omega)) (fun _ => by cases p_x with | none => exact .inl rfl | some a => exact .inr ⟨a, rfl⟩) fun s2 hstr2 => ?_
  refine F43_call (C43 (g := wbit ws_f) hM0 (by omega) (by omega) (by omega) (by omega) hs_f (fun _ => rfl) (by omega) hstr2 fun ws_g p_g c_g w10 hlen_g hg_g hs_g f10 => back_filt ?_)
  replace fr := fr.trans f10 fun _ h => h.elim
  have z10 := f10.size
  replace hs_f := hs_f.fr0 f10
  replace hd_x := hd_x.fr0 f10
  replace hls := hls.fr0 f10
  replace bn9 := bn9.fr f10 id
  refine F41_call (C41 (g := wbit ws_g) hM0 (by omega) (by omega) (by omega) (by omega) hs_g (fun _ => rfl) hls (by rw [locs_length]; omega) fun w11 f11 => back_bool ?_)
  rw [locs_hit]
  replace fr := fr.trans f11 fun _ h => h.elim
  have z11 := f11.size
  replace hs_f := hs_f.fr0 f11
  replace hd_x := hd_x.fr0 f11
  replace hls := hls.fr0 f11
  replace hs_g := hs_g.fr0 f11
  replace bn9 := bn9.fr f11 id
  have hh : hit (wbit ws_g) M K (hashOf l_x bx) = true := by rw [hit_congr hg_g]; exact plus_hit
  rw [hh]
  exact hk _ fr

theorem F10_spec {m kk l lc lx cx ly cy : Nat} {p px py : Option Addr} {bx by' : Nat → Int} {k : Value → W} {w : World} (hm : m < 65536) (hkk : kk < 256) (hr : ReadsW w p l) (hx : TB w px lx bx) (hxc : lx ≤ cx) (hy : TB w py ly by') (hyc : ly ≤ cy)
    (hk : ∀ w', Fr (fun _ => False) w w' → k (.bool true) w') : F10 k m kk p l lc px lx cx py ly cy w := by
  unfold F10
  have b_hx := TB.lt hx
  have b_hy := TB.lt hy
  refine BIf_intro (fun hc => hk _ (Fr.refl _ _)) (fun hc => ?_)
  have hl1 := of_decide_eq_false hc
  refine BIf_intro (fun hc => hk _ (Fr.refl _ _)) (fun hc => ?_)
  have hl2 := of_decide_eq_false hc
  refine BIf_intro (fun hc => hk _ (Fr.refl _ _)) (fun hc => ?_)
  have hl3 := of_decide_eq_false hc
  refine F37_call (C37 hm hkk hr (by omega) fun M K ws_f p_f c_f w1 hM0 hM1 hK1 hlen_f eM eK hs_f f1 => back_filt ?_)
  have fr := f1
  have z1 := f1.size
  replace hr := hr.fr0 f1
  replace hx := hx.fr0 f1
  replace hy := hy.fr0 f1
  refine F38_call (C38 hx hxc fun p_x l_x c_x hd_x hc_x h80_x hle_x => back_slice ?_)
  have b_hd_x := TB.lt hd_x
  refine F38_call (C38 hy hyc fun p_y l_y c_y hd_y hc_y h80_y hle_y => back_slice ?_)
  have b_hd_y := TB.lt hd_y
  refine new_intro fun n11 w2 e2 bn11 f2 z2 => ?_
  replace fr := fr.trans f2 fun _ h => h.elim
  replace hs_f := hs_f.fr0 f2
  replace hd_x := hd_x.fr0 f2
  replace hd_y := hd_y.fr0 f2
  refine store_intro bn11 (by simp) rfl fun w3 bn11 f3 z3 => ?_
  replace fr := fr.trans f3 fun x (e : x = n11) => .inr (by omega)
  replace hs_f := hs_f.st f3 (by omega)
  replace hd_x := hd_x.frS f3 fun h0 x hx (e : x = n11) => by have := b_hd_x h0 x hx; omega
  replace hd_y := hd_y.frS f3 fun h0 x hx (e : x = n11) => by have := b_hd_y h0 x hx; omega
  refine store_intro bn11 (by simp) rfl fun w4 bn11 f4 z4 => ?_
  replace fr := fr.trans f4 fun x (e : x = n11) => .inr (by omega)
  replace hs_f := hs_f.st f4 (by omega)
  replace hd_x := hd_x.frS f4 fun h0 x hx (e : x = n11) => by have := b_hd_x h0 x hx; omega
  replace hd_y := hd_y.frS f4 fun h0 x hx (e : x = n11) => by have := b_hd_y h0 x hx; omega
  refine store_intro bn11 (by simp) rfl fun w5 bn11 f5 z5 => ?_
  replace fr := fr.trans f5 fun x (e : x = n11) => .inr (by omega)
  replace hs_f := hs_f.st f5 (by omega)
  replace hd_x := hd_x.frS f5 fun h0 x hx (e : x = n11) => by have := b_hd_x h0 x hx; omega
  replace hd_y := hd_y.frS f5 fun h0 x hx (e : x = n11) => by have := b_hd_y h0 x hx; omega
  refine load_int bn11 rfl ?_
  refine load_int bn11 rfl ?_
  refine load_slice bn11 rfl ?_
  refine F44_call (C44 (g := wbit ws_f) hM0 (by omega) (by omega) (by omega) (by omega) hs_f (fun _ => rfl) (by omega) hd_x hc_x fun ws_a p_a c_a w6 hlen_a hg_a hs_a f6 => back_filt ?_)
  replace fr := fr.trans f6 fun _ h => h.elim
  have z6 := f6.size
  replace hs_f := hs_f.fr0 f6
  replace hd_x := hd_x.fr0 f6
  replace hd_y := hd_y.fr0 f6
  replace bn11 := bn11.fr f6 id
  refine F44_call (C44 (g := wbit ws_a) hM0 (by omega) (by omega) (by omega) (by omega) hs_a (fun _ => rfl) (by omega) hd_y hc_y fun ws_g p_g c_g w7 hlen_g hg_g hs_g f7 => back_filt ?_)
  replace fr := fr.trans f7 fun _ h => h.elim
  have z7 := f7.size
  replace hs_f := hs_f.fr0 f7
  replace hd_x := hd_x.fr0 f7
  replace hd_y := hd_y.fr0 f7
  replace hs_a := hs_a.fr0 f7
  replace bn11 := bn11.fr f7 id
  refine new_intro fun n21 w8 e8 bn21 f8 z8 => ?_
  replace fr := fr.trans f8 fun _ h => h.elim
  replace hs_f := hs_f.fr0 f8
  replace hd_x := hd_x.fr0 f8
  replace hd_y := hd_y.fr0 f8
  replace hs_a := hs_a.fr0 f8
  replace hs_g := hs_g.fr0 f8
  replace bn11 := bn11.fr f8 id
  refine store_intro bn21 (by simp) rfl fun w9 bn21 f9 z9 => ?_
  replace fr := fr.trans f9 fun x (e : x = n21) => .inr (by omega)
  replace hs_f := hs_f.st f9 (by omega)
  replace hd_x := hd_x.frS f9 fun h0 x hx (e : x = n21) => by have := b_hd_x h0 x hx; omega
  replace hd_y := hd_y.frS f9 fun h0 x hx (e : x = n21) => by have := b_hd_y h0 x hx; omega
  replace hs_a := hs_a.st f9 (by omega)
  replace hs_g := hs_g.st f9 (by omega)
  replace bn11 := bn11.fr f9 (show ¬ n11 = n21 by omega)
  refine store_intro bn21 (by simp) rfl fun w10 bn21 f10 z10 => ?_
  replace fr := fr.trans f10 fun x (e : x = n21) => .inr (by omega)
  replace hs_f := hs_f.st f10 (by omega)
  replace hd_x := hd_x.frS f10 fun h0 x hx (e : x = n21) => by have := b_hd_x h0 x hx; omega
  replace hd_y := hd_y.frS f10 fun h0 x hx (e : x = n21) => by have := b_hd_y h0 x hx; omega
  replace hs_a := hs_a.st f10 (by omega)
  replace hs_g := hs_g.st f10 (by omega)
  replace bn11 := bn11.fr f10 (show ¬ n11 = n21 by omega)
  refine store_intro bn21 (by simp) rfl fun w11 bn21 f11 z11 => ?_
  replace fr := fr.trans f11 fun x (e : x = n21) => .inr (by omega)
  replace hs_f := hs_f.st f11 (by omega)
  replace hd_x := hd_x.frS f11 fun h0 x hx (e : x = n21) => by have := b_hd_x h0 x hx; omega
  replace hd_y := hd_y.frS f11 fun h0 x hx (e : x = n21) => by have := b_hd_y h0 x hx; omega
  replace hs_a := hs_a.st f11 (by omega)
  replace hs_g := hs_g.st f11 (by omega)
  replace bn11 := bn11.fr f11 (show ¬ n11 = n21 by omega)
  refine drw_intro fun w12 f12 z12 => ?_
  replace fr := fr.trans f12 fun _ h => h.elim
  replace hs_f := hs_f.fr0 f12
  replace hd_x := hd_x.fr0 f12
  replace hd_y := hd_y.fr0 f12
  replace hs_a := hs_a.fr0 f12
  replace hs_g := hs_g.fr0 f12
  replace bn11 := bn11.fr f12 id
  replace bn21 := bn21.fr f12 id
  refine load_int bn21 rfl ?_
  refine load_int bn21 rfl ?_
  refine load_slice bn21 rfl ?_
  refine load_int bn11 rfl ?_
  refine load_int bn11 rfl ?_
  refine load_slice bn11 rfl ?_
  refine F44_call (C44 (g := wbit ws_f) hM0 (by omega) (by omega) (by omega) (by omega) hs_f (fun _ => rfl) (by omega) hd_y hc_y fun ws_b p_b c_b w13 hlen_b hg_b hs_b f13 => back_filt ?_)
  replace fr := fr.trans f13 fun _ h => h.elim
  have z13 := f13.size
  replace hs_f := hs_f.fr0 f13
  replace hd_x := hd_x.fr0 f13
  replace hd_y := hd_y.fr0 f13
  replace hs_a := hs_a.fr0 f13
  replace hs_g := hs_g.fr0 f13
  replace bn11 := bn11.fr f13 id
  replace bn21 := bn21.fr f13 id
  refine Chk1_iff.2 ⟨by rw [bn21.cell]; rfl, ?_⟩
  refine Chk1_iff.2 ⟨by rw [bn21.cell]; rfl, ?_⟩
  refine Chk1_iff.2 ⟨by rw [bn21.cell]; rfl, ?_⟩
  refine F44_call (C44 (g := wbit ws_b) hM0 (by omega) (by omega) (by omega) (by omega) hs_b (fun _ => rfl) (by omega) hd_x hc_x fun ws_h p_h c_h w14 hlen_h hg_h hs_h f14 => back_filt ?_)
  replace fr := fr.trans f14 fun _ h => h.elim
  have z14 := f14.size
  replace hs_f := hs_f.fr0 f14
  replace hd_x := hd_x.fr0 f14
  replace hd_y := hd_y.fr0 f14
  replace hs_a := hs_a.fr0 f14
  replace hs_g := hs_g.fr0 f14
  replace hs_b := hs_b.fr0 f14
  replace bn11 := bn11.fr f14 id
  replace bn21 := bn21.fr f14 id
  refine Chk1_iff.2 ⟨by rw [bn11.cell]; rfl, ?_⟩
  refine Chk1_iff.2 ⟨by rw [bn11.cell]; rfl, ?_⟩
  refine Chk1_iff.2 ⟨by rw [bn11.cell]; rfl, ?_⟩
  refine Chk1_iff.2 ⟨by rw [bn21.cell]; rfl, ?_⟩
  refine Chk1_iff.2 ⟨by rw [bn21.cell]; rfl, ?_⟩
  refine Chk1_iff.2 ⟨by rw [bn21.cell]; rfl, ?_⟩
  refine F45_call (C45 (g := wbit ws_g) hM0 (by omega) (by omega) (by omega) (by omega) hs_g (fun _ => rfl) hs_h (fun _ => rfl) (by omega) (fun j => by rw [hg_g, hg_h, plus_congr hg_a, plus_congr hg_b, plus_plus]) fun w15 f15 => back_bool ?_)
  replace fr := fr.trans f15 fun _ h => h.elim
  have z15 := f15.size
  replace hs_f := hs_f.fr0 f15
  replace hd_x := hd_x.fr0 f15
  replace hd_y := hd_y.fr0 f15
  replace hs_a := hs_a.fr0 f15
  replace hs_g := hs_g.fr0 f15
  replace hs_b := hs_b.fr0 f15
  replace hs_h := hs_h.fr0 f15
  replace bn11 := bn11.fr f15 id
  replace bn21 := bn21.fr f15 id
  refine Chk1_iff.2 ⟨by rw [bn11.cell]; rfl, ?_⟩
  refine Chk1_iff.2 ⟨by rw [bn11.cell]; rfl, ?_⟩
  refine Chk1_iff.2 ⟨by rw [bn11.cell]; rfl, ?_⟩
  rw [BIf_true]
  refine load_int bn21 rfl ?_
  refine load_int bn21 rfl ?_
  refine load_slice bn21 rfl ?_
  refine load_int bn21 rfl ?_
  refine load_int bn21 rfl ?_
  refine load_slice bn21 rfl ?_
  refine F44_call (C44 (g := wbit ws_g) hM0 (by omega) (by omega) (by omega) (by omega) hs_g (fun _ => rfl) (by omega) hd_x hc_x fun ws_i p_i c_i w16 hlen_i hg_i hs_i f16 => back_filt ?_)
  replace fr := fr.trans f16 fun _ h => h.elim
  have z16 := f16.size
  replace hs_f := hs_f.fr0 f16
  replace hd_x := hd_x.fr0 f16
  replace hd_y := hd_y.fr0 f16
  replace hs_a := hs_a.fr0 f16
  replace hs_g := hs_g.fr0 f16
  replace hs_b := hs_b.fr0 f16
  replace hs_h := hs_h.fr0 f16
  replace bn11 := bn11.fr f16 id
  replace bn21 := bn21.fr f16 id
  refine Chk1_iff.2 ⟨by rw [bn21.cell]; rfl, ?_⟩
  refine Chk1_iff.2 ⟨by rw [bn21.cell]; rfl, ?_⟩
  refine Chk1_iff.2 ⟨by rw [bn21.cell]; rfl, ?_⟩
  refine Chk1_iff.2 ⟨by rw [bn11.cell]; rfl, ?_⟩
  refine Chk1_iff.2 ⟨by rw [bn11.cell]; rfl, ?_⟩
  refine Chk1_iff.2 ⟨by rw [bn11.cell]; rfl, ?_⟩
  refine Chk1_iff.2 ⟨by rw [bn21.cell]; rfl, ?_⟩
  refine Chk1_iff.2 ⟨by rw [bn21.cell]; rfl, ?_⟩
  refine Chk1_iff.2 ⟨by rw [bn21.cell]; rfl, ?_⟩
  refine F45_call (C45 (g := wbit ws_g) hM0 (by omega) (by omega) (by omega) (by omega) hs_g (fun _ => rfl) hs_i (fun _ => rfl) (by omega) (fun j => by exact again3 hg_a hg_g hg_i j) fun w17 f17 => back_bool ?_)
  replace fr := fr.trans f17 fun _ h => h.elim
  have z17 := f17.size
  replace hs_f := hs_f.fr0 f17
  replace hd_x := hd_x.fr0 f17
  replace hd_y := hd_y.fr0 f17
  replace hs_a := hs_a.fr0 f17
  replace hs_g := hs_g.fr0 f17
  replace hs_b := hs_b.fr0 f17
  replace hs_h := hs_h.fr0 f17
  replace hs_i := hs_i.fr0 f17
  replace bn11 := bn11.fr f17 id
  replace bn21 := bn21.fr f17 id
  refine Chk1_iff.2 ⟨by rw [bn21.cell]; rfl, ?_⟩
  refine Chk1_iff.2 ⟨by rw [bn21.cell]; rfl, ?_⟩
  refine Chk1_iff.2 ⟨by rw [bn21.cell]; rfl, ?_⟩
  refine Chk1_iff.2 ⟨by rw [bn11.cell]; rfl, ?_⟩
  refine Chk1_iff.2 ⟨by rw [bn11.cell]; rfl, ?_⟩
  refine Chk1_iff.2 ⟨by rw [bn11.cell]; rfl, ?_⟩
  refine Chk1_iff.2 ⟨by rw [bn21.cell]; rfl, ?_⟩
  refine Chk1_iff.2 ⟨by rw [bn21.cell]; rfl, ?_⟩
  refine Chk1_iff.2 ⟨by rw [bn21.cell]; rfl, ?_⟩
  rw [BIf_true]
  refine load_int bn21 rfl ?_
  refine load_int bn21 rfl ?_
  refine load_slice bn21 rfl ?_
  refine F40_call (C40 (g := wbit ws_g) hM0 (by omega) (by omega) (by omega) (by omega) hs_g (fun _ => rfl) (by omega) hd_x hc_x fun w18 f18 => back_bool ?_)
  replace fr := fr.trans f18 fun _ h => h.elim
  have z18 := f18.size
  replace hs_f := hs_f.fr0 f18
  replace hd_x := hd_x.fr0 f18
  replace hd_y := hd_y.fr0 f18
  replace hs_a := hs_a.fr0 f18
  replace hs_g := hs_g.fr0 f18
  replace hs_b := hs_b.fr0 f18
  replace hs_h := hs_h.fr0 f18
  replace hs_i := hs_i.fr0 f18
  replace bn11 := bn11.fr f18 id
  replace bn21 := bn21.fr f18 id
  refine Chk1_iff.2 ⟨by rw [bn21.cell]; rfl, ?_⟩
  refine Chk1_iff.2 ⟨by rw [bn21.cell]; rfl, ?_⟩
  refine Chk1_iff.2 ⟨by rw [bn21.cell]; rfl, ?_⟩
  refine Chk1_iff.2 ⟨by rw [bn21.cell]; rfl, ?_⟩
  refine Chk1_iff.2 ⟨by rw [bn21.cell]; rfl, ?_⟩
  refine Chk1_iff.2 ⟨by rw [bn21.cell]; rfl, ?_⟩
  refine Chk1_iff.2 ⟨by rw [bn11.cell]; rfl, ?_⟩
  refine Chk1_iff.2 ⟨by rw [bn11.cell]; rfl, ?_⟩
  refine Chk1_iff.2 ⟨by rw [bn11.cell]; rfl, ?_⟩
  refine Chk1_iff.2 ⟨by rw [bn21.cell]; rfl, ?_⟩
  refine Chk1_iff.2 ⟨by rw [bn21.cell]; rfl, ?_⟩
  refine Chk1_iff.2 ⟨by rw [bn21.cell]; rfl, ?_⟩
  have h1 : hit (wbit ws_g) M K (hashOf l_x bx) = true := by rw [hit_congr (fun j => by rw [hg_g, plus_congr hg_a, plus_plus])]; exact plus_hit
  rw [h1, BIf_true]
  refine load_int bn21 rfl ?_
  refine load_int bn21 rfl ?_
  refine load_slice bn21 rfl ?_
  refine F40_call (C40 (g := wbit ws_g) hM0 (by omega) (by omega) (by omega) (by omega) hs_g (fun _ => rfl) (by omega) hd_y hc_y fun w19 f19 => back_bool ?_)
  replace fr := fr.trans f19 fun _ h => h.elim
  have z19 := f19.size
  replace hs_f := hs_f.fr0 f19
  replace hd_x := hd_x.fr0 f19
  replace hd_y := hd_y.fr0 f19
  replace hs_a := hs_a.fr0 f19
  replace hs_g := hs_g.fr0 f19
  replace hs_b := hs_b.fr0 f19
  replace hs_h := hs_h.fr0 f19
  replace hs_i := hs_i.fr0 f19
  replace bn11 := bn11.fr f19 id
  replace bn21 := bn21.fr f19 id
  refine Chk1_iff.2 ⟨by rw [bn21.cell]; rfl, ?_⟩
  refine Chk1_iff.2 ⟨by rw [bn21.cell]; rfl, ?_⟩
  refine Chk1_iff.2 ⟨by rw [bn21.cell]; rfl, ?_⟩
  refine Chk1_iff.2 ⟨by rw [bn21.cell]; rfl, ?_⟩
  refine Chk1_iff.2 ⟨by rw [bn21.cell]; rfl, ?_⟩
  refine Chk1_iff.2 ⟨by rw [bn21.cell]; rfl, ?_⟩
  refine Chk1_iff.2 ⟨by rw [bn21.cell]; rfl, ?_⟩
  refine Chk1_iff.2 ⟨by rw [bn21.cell]; rfl, ?_⟩
  refine Chk1_iff.2 ⟨by rw [bn21.cell]; rfl, ?_⟩
  refine Chk1_iff.2 ⟨by rw [bn11.cell]; rfl, ?_⟩
  refine Chk1_iff.2 ⟨by rw [bn11.cell]; rfl, ?_⟩
  refine Chk1_iff.2 ⟨by rw [bn11.cell]; rfl, ?_⟩
  refine Chk1_iff.2 ⟨by rw [bn21.cell]; rfl, ?_⟩
  refine Chk1_iff.2 ⟨by rw [bn21.cell]; rfl, ?_⟩
  refine Chk1_iff.2 ⟨by rw [bn21.cell]; rfl, ?_⟩
  have h2 : hit (wbit ws_g) M K (hashOf l_y by') = true := by rw [hit_congr hg_g]; exact plus_hit
  rw [h2]
  exact hk _ fr

theorem F11_J1_spec {M K n_u c_u lo_u hi_u lo hi c_h nh nu i0 : Nat} {p_h p_u : Option Addr} {f_u : Nat → Bool} {ws_h : List Nat} {k : Value → W} {w : World} (hs_h : WV w lo hi p_h ws_h) (hs_u : BV w lo_u hi_u n_u p_u f_u)
    (bnh : Blk w nh 46 [.int .u64 M, .int .u64 K, .slice p_h ws_h.length c_h]) (bnu : Blk w nu 25 [.int .u64 n_u, .slice p_u (L n_u f_u).length c_u]) (h0 : 0 < ws_h.length) (hl : ws_h.length ≤ 1000) (hnu : n_u < 524288) (hu : ∀ j, f_u j = wbit ws_h j) (hi0 : f_u i0 = true)
    (hk : ∀ w', Fr (fun _ => False) w w' → k (.bool true) w') : F11_J1 k ⟨nh, 0, none⟩ true ⟨nu, 0, none⟩ w := by
  unfold F11_J1
  simp only [add_mk, Nat.zero_add, Nat.add_zero]
  refine drw_intro fun w1 f1 z1 => ?_
  have fr := f1
  replace hs_h := hs_h.fr0 f1
  replace hs_u := hs_u.fr0 f1
  replace bnh := bnh.fr f1 id
  replace bnu := bnu.fr f1 id
  rw [BIf_true]
  refine load_slice bnh rfl ?_
  refine load_int bnu rfl ?_
  refine load_slice bnu rfl ?_
  refine F47_call (C47 (by omega) (by omega) hs_h (fun _ => rfl) fun p_z c_z w2 hs_z f2 => back_bits ?_)
  generalize en_z : 64 * ws_h.length = n_z at hs_z ⊢
  generalize ef_z : wbit ws_h = f_z at hs_z ⊢
  replace fr := fr.trans f2 fun _ h => h.elim
  have z2 := f2.size
  replace hs_h := hs_h.fr0 f2
  replace hs_u := hs_u.fr0 f2
  replace bnh := bnh.fr f2 id
  replace bnu := bnu.fr f2 id
  refine Chk1_iff.2 ⟨by rw [bnu.cell]; rfl, ?_⟩
  refine Chk1_iff.2 ⟨by rw [bnu.cell]; rfl, ?_⟩
  refine F16_call (F16_spec hs_z.sees hs_u.sees (by have := L_length_le n_z f_z; omega) fun w3 f3 => back_bool ?_)
  replace fr := fr.trans f3 fun _ h => h.elim
  have z3 := f3.size
  replace hs_h := hs_h.fr0 f3
  replace hs_u := hs_u.fr0 f3
  replace hs_z := hs_z.fr0 f3
  replace bnh := bnh.fr f3 id
  replace bnu := bnu.fr f3 id
  refine Chk1_iff.2 ⟨by rw [bnh.cell]; rfl, ?_⟩
  rw [decide_eq_true (L_same (fun j => by rw [← ef_z, hu]) hs_z.lt hs_u.lt), BIf_true]
  refine load_int bnu rfl ?_
  refine load_slice bnu rfl ?_
  refine F30_call (C30 (by omega) hs_u fun w4 f4 => back_int ?_)
  replace fr := fr.trans f4 fun _ h => h.elim
  have z4 := f4.size
  replace hs_h := hs_h.fr0 f4
  replace hs_u := hs_u.fr0 f4
  replace hs_z := hs_z.fr0 f4
  replace bnh := bnh.fr f4 id
  replace bnu := bnu.fr f4 id
  refine Chk1_iff.2 ⟨by rw [bnu.cell]; rfl, ?_⟩
  refine Chk1_iff.2 ⟨by rw [bnu.cell]; rfl, ?_⟩
  refine Chk1_iff.2 ⟨by rw [bnh.cell]; rfl, ?_⟩
  have hp := cnt_any (hs_u.lt i0 hi0) hi0
  rw [decide_eq_true (by omega)]
  exact hk _ fr

theorem F11_spec {m kk l lc l2 lc2 lx cx : Nat} {p q px : Option Addr} {bx : Nat → Int} {k : Value → W} {w : World} (hm : m < 65536) (hkk : kk < 256) (hr : ReadsW w p l) (hq : ReadsW w q l2) (hx : TB w px lx bx) (hxc : lx ≤ cx)
    (hk : ∀ w', Fr (fun _ => False) w w' → k (.bool true) w') : F11 k m kk p l lc q l2 lc2 px lx cx w := by
  unfold F11
  have b_hq := hq.lt
  have b_hx := TB.lt hx
  refine BIf_intro (fun hc => hk _ (Fr.refl _ _)) (fun hc => ?_)
  have hl1 := of_decide_eq_false hc
  refine BIf_intro (fun hc => hk _ (Fr.refl _ _)) (fun hc => ?_)
  have hl2 := of_decide_eq_false hc
  refine BIf_intro (fun hc => hk _ (Fr.refl _ _)) (fun hc => ?_)
  have hl3 := of_decide_eq_false hc
  refine F37_call (C37 hm hkk hr (by omega) fun M K ws_f p_f c_f w1 hM0 hM1 hK1 hlen_f eM eK hs_f f1 => back_filt ?_)
  have fr := f1
  have z1 := f1.size
  replace hr := hr.fr0 f1
  replace hq := hq.fr0 f1
  replace hx := hx.fr0 f1
  refine F38_call (C38 hx hxc fun p_x l_x c_x hd_x hc_x h80_x hle_x => back_slice ?_)
  have b_hd_x := TB.lt hd_x
  refine new_intro fun n10 w2 e2 bn10 f2 z2 => ?_
  replace fr := fr.trans f2 fun _ h => h.elim
  replace hq := hq.fr0 f2
  replace hs_f := hs_f.fr0 f2
  replace hd_x := hd_x.fr0 f2
  refine store_intro bn10 (by simp) rfl fun w3 bn10 f3 z3 => ?_
  replace fr := fr.trans f3 fun x (e : x = n10) => .inr (by omega)
  replace hq := hq.frN f3 b_hq (by omega)
  replace hs_f := hs_f.st f3 (by omega)
  replace hd_x := hd_x.frS f3 fun h0 x hx (e : x = n10) => by have := b_hd_x h0 x hx; omega
  refine store_intro bn10 (by simp) rfl fun w4 bn10 f4 z4 => ?_
  replace fr := fr.trans f4 fun x (e : x = n10) => .inr (by omega)
  replace hq := hq.frN f4 b_hq (by omega)
  replace hs_f := hs_f.st f4 (by omega)
  replace hd_x := hd_x.frS f4 fun h0 x hx (e : x = n10) => by have := b_hd_x h0 x hx; omega
  refine store_intro bn10 (by simp) rfl fun w5 bn10 f5 z5 => ?_
  replace fr := fr.trans f5 fun x (e : x = n10) => .inr (by omega)
  replace hq := hq.frN f5 b_hq (by omega)
  replace hs_f := hs_f.st f5 (by omega)
  replace hd_x := hd_x.frS f5 fun h0 x hx (e : x = n10) => by have := b_hd_x h0 x hx; omega
  refine F37_call (C37 hm hkk hq (by omega) fun M2 K2 ws_e p_e c_e w6 hM02 hM12 hK12 hlen_e eM2 eK2 hs_e f6 => back_filt ?_)
  obtain rfl : M = M2 := by omega
  obtain rfl : K = K2 := by omega
  replace fr := fr.trans f6 fun _ h => h.elim
  have z6 := f6.size
  replace hq := hq.fr0 f6
  replace hs_f := hs_f.fr0 f6
  replace hd_x := hd_x.fr0 f6
  replace bn10 := bn10.fr f6 id
  refine F44_call (C44 (g := wbit ws_e) hM0 (by omega) (by omega) (by omega) (by omega) hs_e (fun _ => rfl) (by omega) hd_x hc_x fun ws_g p_g c_g w7 hlen_g hg_g hs_g f7 => back_filt ?_)
  replace fr := fr.trans f7 fun _ h => h.elim
  have z7 := f7.size
  replace hs_f := hs_f.fr0 f7
  replace hd_x := hd_x.fr0 f7
  replace hs_e := hs_e.fr0 f7
  replace bn10 := bn10.fr f7 id
  refine new_intro fun n17 w8 e8 bn17 f8 z8 => ?_
  replace fr := fr.trans f8 fun _ h => h.elim
  replace hs_f := hs_f.fr0 f8
  replace hd_x := hd_x.fr0 f8
  replace hs_e := hs_e.fr0 f8
  replace hs_g := hs_g.fr0 f8
  replace bn10 := bn10.fr f8 id
  refine store_intro bn17 (by simp) rfl fun w9 bn17 f9 z9 => ?_
  replace fr := fr.trans f9 fun x (e : x = n17) => .inr (by omega)
  replace hs_f := hs_f.st f9 (by omega)
  replace hd_x := hd_x.frS f9 fun h0 x hx (e : x = n17) => by have := b_hd_x h0 x hx; omega
  replace hs_e := hs_e.st f9 (by omega)
  replace hs_g := hs_g.st f9 (by omega)
  replace bn10 := bn10.fr f9 (show ¬ n10 = n17 by omega)
  refine store_intro bn17 (by simp) rfl fun w10 bn17 f10 z10 => ?_
  replace fr := fr.trans f10 fun x (e : x = n17) => .inr (by omega)
  replace hs_f := hs_f.st f10 (by omega)
  replace hd_x := hd_x.frS f10 fun h0 x hx (e : x = n17) => by have := b_hd_x h0 x hx; omega
  replace hs_e := hs_e.st f10 (by omega)
  replace hs_g := hs_g.st f10 (by omega)
  replace bn10 := bn10.fr f10 (show ¬ n10 = n17 by omega)
  refine store_intro bn17 (by simp) rfl fun w11 bn17 f11 z11 => ?_
  replace fr := fr.trans f11 fun x (e : x = n17) => .inr (by omega)
  replace hs_f := hs_f.st f11 (by omega)
  replace hd_x := hd_x.frS f11 fun h0 x hx (e : x = n17) => by have := b_hd_x h0 x hx; omega
  replace hs_e := hs_e.st f11 (by omega)
  replace hs_g := hs_g.st f11 (by omega)
  replace bn10 := bn10.fr f11 (show ¬ n10 = n17 by omega)
  refine load_int bn10 rfl ?_
  refine load_int bn10 rfl ?_
  refine load_slice bn10 rfl ?_
  refine load_int bn17 rfl ?_
  refine load_int bn17 rfl ?_
  refine load_slice bn17 rfl ?_
  refine F46_call (C46 (g := wbit ws_f) (g2 := wbit ws_g) hM0 (by omega) (by omega) (by omega) (by omega) hs_f (fun _ => rfl) hs_g (fun _ => rfl) (by omega) fun ws_h p_h c_h w12 hlen_h hg_h hs_h f12 => back_filt_bool ?_)
  replace fr := fr.trans f12 fun _ h => h.elim
  have z12 := f12.size
  replace hs_f := hs_f.fr0 f12
  replace hd_x := hd_x.fr0 f12
  replace hs_e := hs_e.fr0 f12
  replace hs_g := hs_g.fr0 f12
  replace bn10 := bn10.fr f12 id
  replace bn17 := bn17.fr f12 id
  refine new_intro fun n28 w13 e13 bn28 f13 z13 => ?_
  replace fr := fr.trans f13 fun _ h => h.elim
  replace hs_f := hs_f.fr0 f13
  replace hd_x := hd_x.fr0 f13
  replace hs_e := hs_e.fr0 f13
  replace hs_g := hs_g.fr0 f13
  replace hs_h := hs_h.fr0 f13
  replace bn10 := bn10.fr f13 id
  replace bn17 := bn17.fr f13 id
  refine store_intro bn28 (by simp) rfl fun w14 bn28 f14 z14 => ?_
  replace fr := fr.trans f14 fun x (e : x = n28) => .inr (by omega)
  replace hs_f := hs_f.st f14 (by omega)
  replace hd_x := hd_x.frS f14 fun h0 x hx (e : x = n28) => by have := b_hd_x h0 x hx; omega
  replace hs_e := hs_e.st f14 (by omega)
  replace hs_g := hs_g.st f14 (by omega)
  replace hs_h := hs_h.st f14 (by omega)
  replace bn10 := bn10.fr f14 (show ¬ n10 = n28 by omega)
  replace bn17 := bn17.fr f14 (show ¬ n17 = n28 by omega)
  refine store_intro bn28 (by simp) rfl fun w15 bn28 f15 z15 => ?_
  replace fr := fr.trans f15 fun x (e : x = n28) => .inr (by omega)
  replace hs_f := hs_f.st f15 (by omega)
  replace hd_x := hd_x.frS f15 fun h0 x hx (e : x = n28) => by have := b_hd_x h0 x hx; omega
  replace hs_e := hs_e.st f15 (by omega)
  replace hs_g := hs_g.st f15 (by omega)
  replace hs_h := hs_h.st f15 (by omega)
  replace bn10 := bn10.fr f15 (show ¬ n10 = n28 by omega)
  replace bn17 := bn17.fr f15 (show ¬ n17 = n28 by omega)
  refine store_intro bn28 (by simp) rfl fun w16 bn28 f16 z16 => ?_
  replace fr := fr.trans f16 fun x (e : x = n28) => .inr (by omega)
  replace hs_f := hs_f.st f16 (by omega)
  replace hd_x := hd_x.frS f16 fun h0 x hx (e : x = n28) => by have := b_hd_x h0 x hx; omega
  replace hs_e := hs_e.st f16 (by omega)
  replace hs_g := hs_g.st f16 (by omega)
  replace hs_h := hs_h.st f16 (by omega)
  replace bn10 := bn10.fr f16 (show ¬ n10 = n28 by omega)
  replace bn17 := bn17.fr f16 (show ¬ n17 = n28 by omega)
  refine drw_intro fun w17 f17 z17 => ?_
  replace fr := fr.trans f17 fun _ h => h.elim
  replace hs_f := hs_f.fr0 f17
  replace hd_x := hd_x.fr0 f17
  replace hs_e := hs_e.fr0 f17
  replace hs_g := hs_g.fr0 f17
  replace hs_h := hs_h.fr0 f17
  replace bn10 := bn10.fr f17 id
  replace bn17 := bn17.fr f17 id
  replace bn28 := bn28.fr f17 id
  refine load_slice bn10 rfl ?_
  refine load_slice bn17 rfl ?_
  refine ⟨?_, ?_⟩
  · refine F47_call (C47 (by omega) (by omega) hs_f (fun _ => rfl) fun p_a c_a w18 hs_a f18 => back_bits ?_)
    generalize en_a : 64 * ws_f.length = n_a at hs_a ⊢
    generalize ef_a : wbit ws_f = f_a at hs_a ⊢
    replace fr := fr.trans f18 fun _ h => h.elim
    have z18 := f18.size
    replace hs_f := hs_f.fr0 f18
    replace hd_x := hd_x.fr0 f18
    replace hs_e := hs_e.fr0 f18
    replace hs_g := hs_g.fr0 f18
    replace hs_h := hs_h.fr0 f18
    replace bn10 := bn10.fr f18 id
    replace bn17 := bn17.fr f18 id
    replace bn28 := bn28.fr f18 id
    refine Chk1_iff.2 ⟨by rw [bn17.cell]; rfl, ?_⟩
    refine ⟨?_, ?_⟩
    · refine F47_call (C47 (by omega) (by omega) hs_g (fun _ => rfl) fun p_b c_b w19 hs_b f19 => back_bits ?_)
      generalize en_b : 64 * ws_g.length = n_b at hs_b ⊢
      generalize ef_b : wbit ws_g = f_b at hs_b ⊢
      replace fr := fr.trans f19 fun _ h => h.elim
      have z19 := f19.size
      replace hs_f := hs_f.fr0 f19
      replace hd_x := hd_x.fr0 f19
      replace hs_e := hs_e.fr0 f19
      replace hs_g := hs_g.fr0 f19
      replace hs_h := hs_h.fr0 f19
      replace hs_a := hs_a.fr0 f19
      replace bn10 := bn10.fr f19 id
      replace bn17 := bn17.fr f19 id
      replace bn28 := bn28.fr f19 id
      refine Chk1_iff.2 ⟨by rw [bn10.cell]; rfl, ?_⟩
      refine ⟨?_, ?_⟩
      · refine F25_call (C25  (by omega) hs_a (by omega) hs_b fun p_u c_u w20 hs_u f20 => back_bits ?_)
        generalize en_u : (max n_a n_b) = n_u at hs_u ⊢
        generalize ef_u : (fun j => f_a j || f_b j) = f_u at hs_u ⊢
        replace fr := fr.trans f20 fun _ h => h.elim
        have z20 := f20.size
        replace hs_f := hs_f.fr0 f20
        replace hd_x := hd_x.fr0 f20
        replace hs_e := hs_e.fr0 f20
        replace hs_g := hs_g.fr0 f20
        replace hs_h := hs_h.fr0 f20
        replace hs_a := hs_a.fr0 f20
        replace hs_b := hs_b.fr0 f20
        replace bn10 := bn10.fr f20 id
        replace bn17 := bn17.fr f20 id
        replace bn28 := bn28.fr f20 id
        refine Chk1_iff.2 ⟨by rw [bn17.cell]; rfl, ?_⟩
        refine Chk1_iff.2 ⟨by rw [bn10.cell]; rfl, ?_⟩
        refine new_intro fun n37 w21 e21 bn37 f21 z21 => ?_
        replace fr := fr.trans f21 fun _ h => h.elim
        replace hs_f := hs_f.fr0 f21
        replace hd_x := hd_x.fr0 f21
        replace hs_e := hs_e.fr0 f21
        replace hs_g := hs_g.fr0 f21
        replace hs_h := hs_h.fr0 f21
        replace hs_a := hs_a.fr0 f21
        replace hs_b := hs_b.fr0 f21
        replace hs_u := hs_u.fr0 f21
        replace bn10 := bn10.fr f21 id
        replace bn17 := bn17.fr f21 id
        replace bn28 := bn28.fr f21 id
        refine Chk1_iff.2 ⟨by rw [bn17.cell]; rfl, ?_⟩
        refine Chk1_iff.2 ⟨by rw [bn10.cell]; rfl, ?_⟩
        refine store_intro bn37 (by simp) rfl fun w22 bn37 f22 z22 => ?_
        replace fr := fr.trans f22 fun x (e : x = n37) => .inr (by omega)
        replace hs_f := hs_f.st f22 (by omega)
        replace hd_x := hd_x.frS f22 fun h0 x hx (e : x = n37) => by have := b_hd_x h0 x hx; omega
        replace hs_e := hs_e.st f22 (by omega)
        replace hs_g := hs_g.st f22 (by omega)
        replace hs_h := hs_h.st f22 (by omega)
        replace hs_a := hs_a.st f22 (by omega)
        replace hs_b := hs_b.st f22 (by omega)
        replace hs_u := hs_u.st f22 (by omega)
        replace bn10 := bn10.fr f22 (show ¬ n10 = n37 by omega)
        replace bn17 := bn17.fr f22 (show ¬ n17 = n37 by omega)
        replace bn28 := bn28.fr f22 (show ¬ n28 = n37 by omega)
        refine store_intro bn37 (by simp) rfl fun w23 bn37 f23 z23 => ?_
        replace fr := fr.trans f23 fun x (e : x = n37) => .inr (by omega)
        replace hs_f := hs_f.st f23 (by omega)
        replace hd_x := hd_x.frS f23 fun h0 x hx (e : x = n37) => by have := b_hd_x h0 x hx; omega
        replace hs_e := hs_e.st f23 (by omega)
        replace hs_g := hs_g.st f23 (by omega)
        replace hs_h := hs_h.st f23 (by omega)
        replace hs_a := hs_a.st f23 (by omega)
        replace hs_b := hs_b.st f23 (by omega)
        replace hs_u := hs_u.st f23 (by omega)
        replace bn10 := bn10.fr f23 (show ¬ n10 = n37 by omega)
        replace bn17 := bn17.fr f23 (show ¬ n17 = n37 by omega)
        replace bn28 := bn28.fr f23 (show ¬ n28 = n37 by omega)
        exact F11_J1_spec (i0 := loc (hashOf l_x bx) 0 % M) hs_h hs_u bn28 bn37 (by omega) (by omega) (by omega) (fun j => by rw [hg_h, ← ef_u, ← ef_a, ← ef_b]) (by rw [← ef_u, ← ef_a, ← ef_b]; show (_ || _) = true; rw [hg_g, show plus (wbit ws_e) M K (hashOf l_x bx) (loc (hashOf l_x bx) 0 % M) = true from by unfold plus; rw [Bool.or_eq_true, decide_eq_true_iff]; exact .inr ⟨0, by omega, rfl⟩, Bool.or_true]) fun w9 f9 => hk _ (fr.trans f9 fun _ h => h.elim)
      · refine new_intro fun n50 w20 e20 bn50 f20 z20 => ?_
        replace fr := fr.trans f20 fun _ h => h.elim
        replace hs_f := hs_f.fr0 f20
        replace hd_x := hd_x.fr0 f20
        replace hs_e := hs_e.fr0 f20
        replace hs_g := hs_g.fr0 f20
        replace hs_h := hs_h.fr0 f20
        replace hs_a := hs_a.fr0 f20
        replace hs_b := hs_b.fr0 f20
        replace bn10 := bn10.fr f20 id
        replace bn17 := bn17.fr f20 id
        replace bn28 := bn28.fr f20 id
        refine Chk1_iff.2 ⟨by rw [bn17.cell]; rfl, ?_⟩
        refine Chk1_iff.2 ⟨by rw [bn10.cell]; rfl, ?_⟩
        refine F25_call (C25  (by omega) hs_a (by omega) hs_b fun p_u c_u w21 hs_u f21 => back_bits ?_)
        generalize en_u : (max n_a n_b) = n_u at hs_u ⊢
        generalize ef_u : (fun j => f_a j || f_b j) = f_u at hs_u ⊢
        replace fr := fr.trans f21 fun _ h => h.elim
        have z21 := f21.size
        replace hs_f := hs_f.fr0 f21
        replace hd_x := hd_x.fr0 f21
        replace hs_e := hs_e.fr0 f21
        replace hs_g := hs_g.fr0 f21
        replace hs_h := hs_h.fr0 f21
        replace hs_a := hs_a.fr0 f21
        replace hs_b := hs_b.fr0 f21
        replace bn10 := bn10.fr f21 id
        replace bn17 := bn17.fr f21 id
        replace bn28 := bn28.fr f21 id
        replace bn50 := bn50.fr f21 id
        refine Chk1_iff.2 ⟨by rw [bn17.cell]; rfl, ?_⟩
        refine Chk1_iff.2 ⟨by rw [bn10.cell]; rfl, ?_⟩
        refine store_intro bn50 (by simp) rfl fun w22 bn50 f22 z22 => ?_
        replace fr := fr.trans f22 fun x (e : x = n50) => .inr (by omega)
        replace hs_f := hs_f.st f22 (by omega)
        replace hd_x := hd_x.frS f22 fun h0 x hx (e : x = n50) => by have := b_hd_x h0 x hx; omega
        replace hs_e := hs_e.st f22 (by omega)
        replace hs_g := hs_g.st f22 (by omega)
        replace hs_h := hs_h.st f22 (by omega)
        replace hs_a := hs_a.st f22 (by omega)
        replace hs_b := hs_b.st f22 (by omega)
        replace hs_u := hs_u.st f22 (by omega)
        replace bn10 := bn10.fr f22 (show ¬ n10 = n50 by omega)
        replace bn17 := bn17.fr f22 (show ¬ n17 = n50 by omega)
        replace bn28 := bn28.fr f22 (show ¬ n28 = n50 by omega)
        refine store_intro bn50 (by simp) rfl fun w23 bn50 f23 z23 => ?_
        replace fr := fr.trans f23 fun x (e : x = n50) => .inr (by omega)
        replace hs_f := hs_f.st f23 (by omega)
        replace hd_x := hd_x.frS f23 fun h0 x hx (e : x = n50) => by have := b_hd_x h0 x hx; omega
        replace hs_e := hs_e.st f23 (by omega)
        replace hs_g := hs_g.st f23 (by omega)
        replace hs_h := hs_h.st f23 (by omega)
        replace hs_a := hs_a.st f23 (by omega)
        replace hs_b := hs_b.st f23 (by omega)
        replace hs_u := hs_u.st f23 (by omega)
        replace bn10 := bn10.fr f23 (show ¬ n10 = n50 by omega)
        replace bn17 := bn17.fr f23 (show ¬ n17 = n50 by omega)
        replace bn28 := bn28.fr f23 (show ¬ n28 = n50 by omega)
        exact F11_J1_spec (i0 := loc (hashOf l_x bx) 0 % M) hs_h hs_u bn28 bn50 (by omega) (by omega) (by omega) (fun j => by rw [hg_h, ← ef_u, ← ef_a, ← ef_b]) (by rw [← ef_u, ← ef_a, ← ef_b]; show (_ || _) = true; rw [hg_g, show plus (wbit ws_e) M K (hashOf l_x bx) (loc (hashOf l_x bx) 0 % M) = true from by unfold plus; rw [Bool.or_eq_true, decide_eq_true_iff]; exact .inr ⟨0, by omega, rfl⟩, Bool.or_true]) fun w9 f9 => hk _ (fr.trans f9 fun _ h => h.elim)
    · refine new_intro fun n53 w19 e19 bn53 f19 z19 => ?_
      replace fr := fr.trans f19 fun _ h => h.elim
      replace hs_f := hs_f.fr0 f19
      replace hd_x := hd_x.fr0 f19
      replace hs_e := hs_e.fr0 f19
      replace hs_g := hs_g.fr0 f19
      replace hs_h := hs_h.fr0 f19
      replace hs_a := hs_a.fr0 f19
      replace bn10 := bn10.fr f19 id
      replace bn17 := bn17.fr f19 id
      replace bn28 := bn28.fr f19 id
      refine Chk1_iff.2 ⟨by rw [bn17.cell]; rfl, ?_⟩
      refine Chk1_iff.2 ⟨by rw [bn10.cell]; rfl, ?_⟩
      refine F47_call (C47 (by omega) (by omega) hs_g (fun _ => rfl) fun p_b c_b w20 hs_b f20 => back_bits ?_)
      generalize en_b : 64 * ws_g.length = n_b at hs_b ⊢
      generalize ef_b : wbit ws_g = f_b at hs_b ⊢
      replace fr := fr.trans f20 fun _ h => h.elim
      have z20 := f20.size
      replace hs_f := hs_f.fr0 f20
      replace hd_x := hd_x.fr0 f20
      replace hs_e := hs_e.fr0 f20
      replace hs_g := hs_g.fr0 f20
      replace hs_h := hs_h.fr0 f20
      replace hs_a := hs_a.fr0 f20
      replace bn10 := bn10.fr f20 id
      replace bn17 := bn17.fr f20 id
      replace bn28 := bn28.fr f20 id
      replace bn53 := bn53.fr f20 id
      refine Chk1_iff.2 ⟨by rw [bn10.cell]; rfl, ?_⟩
      refine F25_call (C25  (by omega) hs_a (by omega) hs_b fun p_u c_u w21 hs_u f21 => back_bits ?_)
      generalize en_u : (max n_a n_b) = n_u at hs_u ⊢
      generalize ef_u : (fun j => f_a j || f_b j) = f_u at hs_u ⊢
      replace fr := fr.trans f21 fun _ h => h.elim
      have z21 := f21.size
      replace hs_f := hs_f.fr0 f21
      replace hd_x := hd_x.fr0 f21
      replace hs_e := hs_e.fr0 f21
      replace hs_g := hs_g.fr0 f21
      replace hs_h := hs_h.fr0 f21
      replace hs_a := hs_a.fr0 f21
      replace hs_b := hs_b.fr0 f21
      replace bn10 := bn10.fr f21 id
      replace bn17 := bn17.fr f21 id
      replace bn28 := bn28.fr f21 id
      replace bn53 := bn53.fr f21 id
      refine Chk1_iff.2 ⟨by rw [bn17.cell]; rfl, ?_⟩
      refine Chk1_iff.2 ⟨by rw [bn10.cell]; rfl, ?_⟩
      refine store_intro bn53 (by simp) rfl fun w22 bn53 f22 z22 => ?_
      replace fr := fr.trans f22 fun x (e : x = n53) => .inr (by omega)
      replace hs_f := hs_f.st f22 (by omega)
      replace hd_x := hd_x.frS f22 fun h0 x hx (e : x = n53) => by have := b_hd_x h0 x hx; omega
      replace hs_e := hs_e.st f22 (by omega)
      replace hs_g := hs_g.st f22 (by omega)
      replace hs_h := hs_h.st f22 (by omega)
      replace hs_a := hs_a.st f22 (by omega)
      replace hs_b := hs_b.st f22 (by omega)
      replace hs_u := hs_u.st f22 (by omega)
      replace bn10 := bn10.fr f22 (show ¬ n10 = n53 by omega)
      replace bn17 := bn17.fr f22 (show ¬ n17 = n53 by omega)
      replace bn28 := bn28.fr f22 (show ¬ n28 = n53 by omega)
      refine store_intro bn53 (by simp) rfl fun w23 bn53 f23 z23 => ?_
      replace fr := fr.trans f23 fun x (e : x = n53) => .inr (by omega)
      replace hs_f := hs_f.st f23 (by omega)
      replace hd_x := hd_x.frS f23 fun h0 x hx (e : x = n53) => by have := b_hd_x h0 x hx; omega
      replace hs_e := hs_e.st f23 (by omega)
      replace hs_g := hs_g.st f23 (by omega)
      replace hs_h := hs_h.st f23 (by omega)
      replace hs_a := hs_a.st f23 (by omega)
      replace hs_b := hs_b.st f23 (by omega)
      replace hs_u := hs_u.st f23 (by omega)
      replace bn10 := bn10.fr f23 (show ¬ n10 = n53 by omega)
      replace bn17 := bn17.fr f23 (show ¬ n17 = n53 by omega)
      replace bn28 := bn28.fr f23 (show ¬ n28 = n53 by omega)
      exact F11_J1_spec (i0 := loc (hashOf l_x bx) 0 % M) hs_h hs_u bn28 bn53 (by omega) (by omega) (by omega) (fun j => by rw [hg_h, ← ef_u, ← ef_a, ← ef_b]) (by rw [← ef_u, ← ef_a, ← ef_b]; show (_ || _) = true; rw [hg_g, show plus (wbit ws_e) M K (hashOf l_x bx) (loc (hashOf l_x bx) 0 % M) = true from by unfold plus; rw [Bool.or_eq_true, decide_eq_true_iff]; exact .inr ⟨0, by omega, rfl⟩, Bool.or_true]) fun w9 f9 => hk _ (fr.trans f9 fun _ h => h.elim)
  · refine new_intro fun n58 w18 e18 bn58 f18 z18 => ?_
    replace fr := fr.trans f18 fun _ h => h.elim
    replace hs_f := hs_f.fr0 f18
    replace hd_x := hd_x.fr0 f18
    replace hs_e := hs_e.fr0 f18
    replace hs_g := hs_g.fr0 f18
    replace hs_h := hs_h.fr0 f18
    replace bn10 := bn10.fr f18 id
    replace bn17 := bn17.fr f18 id
    replace bn28 := bn28.fr f18 id
    refine Chk1_iff.2 ⟨by rw [bn17.cell]; rfl, ?_⟩
    refine Chk1_iff.2 ⟨by rw [bn10.cell]; rfl, ?_⟩
    refine F47_call (C47 (by omega) (by omega) hs_f (fun _ => rfl) fun p_a c_a w19 hs_a f19 => back_bits ?_)
    generalize en_a : 64 * ws_f.length = n_a at hs_a ⊢
    generalize ef_a : wbit ws_f = f_a at hs_a ⊢
    replace fr := fr.trans f19 fun _ h => h.elim
    have z19 := f19.size
    replace hs_f := hs_f.fr0 f19
    replace hd_x := hd_x.fr0 f19
    replace hs_e := hs_e.fr0 f19
    replace hs_g := hs_g.fr0 f19
    replace hs_h := hs_h.fr0 f19
    replace bn10 := bn10.fr f19 id
    replace bn17 := bn17.fr f19 id
    replace bn28 := bn28.fr f19 id
    replace bn58 := bn58.fr f19 id
    refine Chk1_iff.2 ⟨by rw [bn17.cell]; rfl, ?_⟩
    refine F47_call (C47 (by omega) (by omega) hs_g (fun _ => rfl) fun p_b c_b w20 hs_b f20 => back_bits ?_)
    generalize en_b : 64 * ws_g.length = n_b at hs_b ⊢
    generalize ef_b : wbit ws_g = f_b at hs_b ⊢
    replace fr := fr.trans f20 fun _ h => h.elim
    have z20 := f20.size
    replace hs_f := hs_f.fr0 f20
    replace hd_x := hd_x.fr0 f20
    replace hs_e := hs_e.fr0 f20
    replace hs_g := hs_g.fr0 f20
    replace hs_h := hs_h.fr0 f20
    replace hs_a := hs_a.fr0 f20
    replace bn10 := bn10.fr f20 id
    replace bn17 := bn17.fr f20 id
    replace bn28 := bn28.fr f20 id
    replace bn58 := bn58.fr f20 id
    refine Chk1_iff.2 ⟨by rw [bn10.cell]; rfl, ?_⟩
    refine F25_call (C25  (by omega) hs_a (by omega) hs_b fun p_u c_u w21 hs_u f21 => back_bits ?_)
    generalize en_u : (max n_a n_b) = n_u at hs_u ⊢
    generalize ef_u : (fun j => f_a j || f_b j) = f_u at hs_u ⊢
    replace fr := fr.trans f21 fun _ h => h.elim
    have z21 := f21.size
    replace hs_f := hs_f.fr0 f21
    replace hd_x := hd_x.fr0 f21
    replace hs_e := hs_e.fr0 f21
    replace hs_g := hs_g.fr0 f21
    replace hs_h := hs_h.fr0 f21
    replace hs_a := hs_a.fr0 f21
    replace hs_b := hs_b.fr0 f21
    replace bn10 := bn10.fr f21 id
    replace bn17 := bn17.fr f21 id
    replace bn28 := bn28.fr f21 id
    replace bn58 := bn58.fr f21 id
    refine Chk1_iff.2 ⟨by rw [bn17.cell]; rfl, ?_⟩
    refine Chk1_iff.2 ⟨by rw [bn10.cell]; rfl, ?_⟩
    refine store_intro bn58 (by simp) rfl fun w22 bn58 f22 z22 => ?_
    replace fr := fr.trans f22 fun x (e : x = n58) => .inr (by omega)
    replace hs_f := hs_f.st f22 (by omega)
    replace hd_x := hd_x.frS f22 fun h0 x hx (e : x = n58) => by have := b_hd_x h0 x hx; omega
    replace hs_e := hs_e.st f22 (by omega)
    replace hs_g := hs_g.st f22 (by omega)
    replace hs_h := hs_h.st f22 (by omega)
    replace hs_a := hs_a.st f22 (by omega)
    replace hs_b := hs_b.st f22 (by omega)
    replace hs_u := hs_u.st f22 (by omega)
    replace bn10 := bn10.fr f22 (show ¬ n10 = n58 by omega)
    replace bn17 := bn17.fr f22 (show ¬ n17 = n58 by omega)
    replace bn28 := bn28.fr f22 (show ¬ n28 = n58 by omega)
    refine store_intro bn58 (by simp) rfl fun w23 bn58 f23 z23 => ?_
    replace fr := fr.trans f23 fun x (e : x = n58) => .inr (by omega)
    replace hs_f := hs_f.st f23 (by omega)
    replace hd_x := hd_x.frS f23 fun h0 x hx (e : x = n58) => by have := b_hd_x h0 x hx; omega
    replace hs_e := hs_e.st f23 (by omega)
    replace hs_g := hs_g.st f23 (by omega)
    replace hs_h := hs_h.st f23 (by omega)
    replace hs_a := hs_a.st f23 (by omega)
    replace hs_b := hs_b.st f23 (by omega)
    replace hs_u := hs_u.st f23 (by omega)
    replace bn10 := bn10.fr f23 (show ¬ n10 = n58 by omega)
    replace bn17 := bn17.fr f23 (show ¬ n17 = n58 by omega)
    replace bn28 := bn28.fr f23 (show ¬ n28 = n58 by omega)
    exact F11_J1_spec (i0 := loc (hashOf l_x bx) 0 % M) hs_h hs_u bn28 bn58 (by omega) (by omega) (by omega) (fun j => by rw [hg_h, ← ef_u, ← ef_a, ← ef_b]) (by rw [← ef_u, ← ef_a, ← ef_b]; show (_ || _) = true; rw [hg_g, show plus (wbit ws_e) M K (hashOf l_x bx) (loc (hashOf l_x bx) 0 % M) = true from by unfold plus; rw [Bool.or_eq_true, decide_eq_true_iff]; exact .inr ⟨0, by omega, rfl⟩, Bool.or_true]) fun w9 f9 => hk _ (fr.trans f9 fun _ h => h.elim)
end Go.Proofs.Ytopdlfecfgimpaa.E
