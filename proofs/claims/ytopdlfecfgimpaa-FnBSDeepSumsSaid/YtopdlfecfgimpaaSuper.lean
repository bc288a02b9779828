/-
  The law FnBSDeepSuper, walked. The straight parts were printed by this session's own program aw.py.
-/
import Derived.Test.YtopdlfecfgimpaaBV
namespace Go.Proofs.Ytopdlfecfgimpaa.E
open Go
set_option linter.unusedSimpArgs false
set_option linter.unusedVariables false
set_option maxRecDepth 100000

theorem cnt_mono {n : Nat} {f g : Nat → Bool} (h : ∀ i, i < n → f i = true → g i = true) : cnt n f ≤ cnt n g := by
  induction n with
  | zero => exact Nat.le_refl _
  | succ n ih =>
    have := ih fun i hi => h i (by omega)
    have h1 := h n (by omega)
    simp only [cnt]
    cases hf : f n with
    | false => simp; omega
    | true => rw [h1 hf]; simp; exact this
/-- The tests. -/
theorem F6_J2_spec {n_a c_a lo_a hi_a : Nat} {p_a : Option Addr} {f_a : Nat → Bool} {n_b c_b lo_b hi_b : Nat} {p_b : Option Addr} {f_b : Nat → Bool} {n_u c_u lo_u hi_u : Nat} {p_u : Option Addr} {f_u : Nat → Bool} {n_v c_v lo_v hi_v : Nat} {p_v : Option Addr} {f_v : Nat → Bool} {na : Nat} {nb : Nat} {nu : Nat} {nv : Nat} {k : Value → W} {w : World} (hs_a : BV w lo_a hi_a n_a p_a f_a) (hs_b : BV w lo_b hi_b n_b p_b f_b) (hs_u : BV w lo_u hi_u n_u p_u f_u) (hs_v : BV w lo_v hi_v n_v p_v f_v) (bna : Blk w na 25 [.int .u64 n_a, .slice p_a (L n_a f_a).length c_a]) (bnb : Blk w nb 25 [.int .u64 n_b, .slice p_b (L n_b f_b).length c_b]) (bnu : Blk w nu 25 [.int .u64 n_u, .slice p_u (L n_u f_u).length c_u]) (bnv : Blk w nv 25 [.int .u64 n_v, .slice p_v (L n_v f_v).length c_v]) (hz_a : hi_a ≤ w.heap.size) (hz_b : hi_b ≤ w.heap.size) (hz_u : hi_u ≤ w.heap.size) (hz_v : hi_v ≤ w.heap.size) (hna : n_a ≤ 400) (hnb : n_b ≤ 400) (hnu : n_u = max n_a n_b) (hnv : n_v = min n_a n_b) (hu : ∀ j, f_u j = (f_a j || f_b j)) (hv : ∀ j, f_v j = (f_a j && f_b j))
    (hk : ∀ w', Fr (fun _ => False) w w' → k (.bool true) w') : F6_J2 k ⟨na, 0, none⟩ ⟨nb, 0, none⟩ ⟨nu, 0, none⟩ ⟨nv, 0, none⟩ w := by
  unfold F6_J2
  simp only [add_mk, Nat.zero_add, Nat.add_zero]
  have lna := bna.lt
  have lnb := bnb.lt
  have lnu := bnu.lt
  have lnv := bnv.lt
  refine drw_intro fun w1 f1 z1 => ?_
  have fr := f1
  replace hs_a := hs_a.fr0 f1
  replace hs_b := hs_b.fr0 f1
  replace hs_u := hs_u.fr0 f1
  replace hs_v := hs_v.fr0 f1
  replace bna := bna.fr f1 id
  replace bnb := bnb.fr f1 id
  replace bnu := bnu.fr f1 id
  replace bnv := bnv.fr f1 id
  refine load_int bnu rfl ?_
  refine load_slice bnu rfl ?_
  refine load_int bna rfl ?_
  refine load_slice bna rfl ?_
  refine F26_call (C26  (by omega) hs_u (by omega) hs_a fun r_ua w2 hr_ua f2 => back_bool ?_)
  replace fr := fr.trans f2 fun _ h => h.elim
  have z2 := f2.size
  replace hs_a := hs_a.fr0 f2
  replace hs_b := hs_b.fr0 f2
  replace hs_u := hs_u.fr0 f2
  replace hs_v := hs_v.fr0 f2
  replace bna := bna.fr f2 id
  replace bnb := bnb.fr f2 id
  replace bnu := bnu.fr f2 id
  replace bnv := bnv.fr f2 id
  have t_ua : r_ua = true := hr_ua.2 (fun j hj => by rw [hu, hj]; rfl)
  rw [t_ua, BIf_true]
  refine load_int bnu rfl ?_
  refine load_slice bnu rfl ?_
  refine load_int bnb rfl ?_
  refine load_slice bnb rfl ?_
  refine F26_call (C26  (by omega) hs_u (by omega) hs_b fun r_ub w3 hr_ub f3 => back_bool ?_)
  replace fr := fr.trans f3 fun _ h => h.elim
  have z3 := f3.size
  replace hs_a := hs_a.fr0 f3
  replace hs_b := hs_b.fr0 f3
  replace hs_u := hs_u.fr0 f3
  replace hs_v := hs_v.fr0 f3
  replace bna := bna.fr f3 id
  replace bnb := bnb.fr f3 id
  replace bnu := bnu.fr f3 id
  replace bnv := bnv.fr f3 id
  refine Chk1_iff.2 ⟨by rw [bna.cell]; rfl, ?_⟩
  refine Chk1_iff.2 ⟨by rw [bna.cell]; rfl, ?_⟩
  refine Chk1_iff.2 ⟨by rw [bnu.cell]; rfl, ?_⟩
  refine Chk1_iff.2 ⟨by rw [bnu.cell]; rfl, ?_⟩
  have t_ub : r_ub = true := hr_ub.2 (fun j hj => by rw [hu, hj, Bool.or_true])
  rw [t_ub, BIf_true]
  refine load_int bna rfl ?_
  refine load_slice bna rfl ?_
  refine load_int bnv rfl ?_
  refine load_slice bnv rfl ?_
  refine F26_call (C26  (by omega) hs_a (by omega) hs_v fun r_av w4 hr_av f4 => back_bool ?_)
  replace fr := fr.trans f4 fun _ h => h.elim
  have z4 := f4.size
  replace hs_a := hs_a.fr0 f4
  replace hs_b := hs_b.fr0 f4
  replace hs_u := hs_u.fr0 f4
  replace hs_v := hs_v.fr0 f4
  replace bna := bna.fr f4 id
  replace bnb := bnb.fr f4 id
  replace bnu := bnu.fr f4 id
  replace bnv := bnv.fr f4 id
  refine Chk1_iff.2 ⟨by rw [bnb.cell]; rfl, ?_⟩
  refine Chk1_iff.2 ⟨by rw [bnb.cell]; rfl, ?_⟩
  refine Chk1_iff.2 ⟨by rw [bnu.cell]; rfl, ?_⟩
  refine Chk1_iff.2 ⟨by rw [bnu.cell]; rfl, ?_⟩
  refine Chk1_iff.2 ⟨by rw [bna.cell]; rfl, ?_⟩
  refine Chk1_iff.2 ⟨by rw [bna.cell]; rfl, ?_⟩
  refine Chk1_iff.2 ⟨by rw [bnu.cell]; rfl, ?_⟩
  refine Chk1_iff.2 ⟨by rw [bnu.cell]; rfl, ?_⟩
  have t_av : r_av = true := hr_av.2 (fun j hj => by rw [hv] at hj; exact (Bool.and_eq_true _ _ ▸ hj).1)
  rw [t_av, BIf_true]
  refine load_int bnb rfl ?_
  refine load_slice bnb rfl ?_
  refine load_int bnv rfl ?_
  refine load_slice bnv rfl ?_
  refine F26_call (C26  (by omega) hs_b (by omega) hs_v fun r_bv w5 hr_bv f5 => back_bool ?_)
  replace fr := fr.trans f5 fun _ h => h.elim
  have z5 := f5.size
  replace hs_a := hs_a.fr0 f5
  replace hs_b := hs_b.fr0 f5
  replace hs_u := hs_u.fr0 f5
  replace hs_v := hs_v.fr0 f5
  replace bna := bna.fr f5 id
  replace bnb := bnb.fr f5 id
  replace bnu := bnu.fr f5 id
  replace bnv := bnv.fr f5 id
  refine Chk1_iff.2 ⟨by rw [bnv.cell]; rfl, ?_⟩
  refine Chk1_iff.2 ⟨by rw [bnv.cell]; rfl, ?_⟩
  refine Chk1_iff.2 ⟨by rw [bna.cell]; rfl, ?_⟩
  refine Chk1_iff.2 ⟨by rw [bna.cell]; rfl, ?_⟩
  refine Chk1_iff.2 ⟨by rw [bnb.cell]; rfl, ?_⟩
  refine Chk1_iff.2 ⟨by rw [bnb.cell]; rfl, ?_⟩
  refine Chk1_iff.2 ⟨by rw [bnu.cell]; rfl, ?_⟩
  refine Chk1_iff.2 ⟨by rw [bnu.cell]; rfl, ?_⟩
  refine Chk1_iff.2 ⟨by rw [bna.cell]; rfl, ?_⟩
  refine Chk1_iff.2 ⟨by rw [bna.cell]; rfl, ?_⟩
  refine Chk1_iff.2 ⟨by rw [bnu.cell]; rfl, ?_⟩
  refine Chk1_iff.2 ⟨by rw [bnu.cell]; rfl, ?_⟩
  have t_bv : r_bv = true := hr_bv.2 (fun j hj => by rw [hv] at hj; exact (Bool.and_eq_true _ _ ▸ hj).2)
  rw [t_bv, BIf_true]
  refine load_int bnu rfl ?_
  refine load_slice bnu rfl ?_
  refine load_int bna rfl ?_
  refine load_slice bna rfl ?_
  refine F17_call (C17  (i := 500) (by omega) hs_u (by omega) fun p_t c_t w6 hs_t f6 => back_bits ?_)
  generalize en_t : (max n_u (500 + 1)) = n_t at hs_t ⊢
  generalize ef_t : (fun j => f_u j || decide (j = 500)) = f_t at hs_t ⊢
  replace fr := fr.trans f6 fun _ h => h.elim
  have z6 := f6.size
  replace hs_a := hs_a.fr0 f6
  replace hs_b := hs_b.fr0 f6
  replace hs_u := hs_u.fr0 f6
  replace hs_v := hs_v.fr0 f6
  replace bna := bna.fr f6 id
  replace bnb := bnb.fr f6 id
  replace bnu := bnu.fr f6 id
  replace bnv := bnv.fr f6 id
  refine Chk1_iff.2 ⟨by rw [bna.cell]; rfl, ?_⟩
  refine Chk1_iff.2 ⟨by rw [bna.cell]; rfl, ?_⟩
  refine Chk1_iff.2 ⟨by rw [bnv.cell]; rfl, ?_⟩
  refine Chk1_iff.2 ⟨by rw [bnv.cell]; rfl, ?_⟩
  refine Chk1_iff.2 ⟨by rw [bnb.cell]; rfl, ?_⟩
  refine Chk1_iff.2 ⟨by rw [bnb.cell]; rfl, ?_⟩
  refine Chk1_iff.2 ⟨by rw [bnv.cell]; rfl, ?_⟩
  refine Chk1_iff.2 ⟨by rw [bnv.cell]; rfl, ?_⟩
  refine Chk1_iff.2 ⟨by rw [bna.cell]; rfl, ?_⟩
  refine Chk1_iff.2 ⟨by rw [bna.cell]; rfl, ?_⟩
  refine Chk1_iff.2 ⟨by rw [bnb.cell]; rfl, ?_⟩
  refine Chk1_iff.2 ⟨by rw [bnb.cell]; rfl, ?_⟩
  refine Chk1_iff.2 ⟨by rw [bnu.cell]; rfl, ?_⟩
  refine Chk1_iff.2 ⟨by rw [bnu.cell]; rfl, ?_⟩
  refine Chk1_iff.2 ⟨by rw [bna.cell]; rfl, ?_⟩
  refine Chk1_iff.2 ⟨by rw [bna.cell]; rfl, ?_⟩
  refine Chk1_iff.2 ⟨by rw [bnu.cell]; rfl, ?_⟩
  refine Chk1_iff.2 ⟨by rw [bnu.cell]; rfl, ?_⟩
  refine F27_call (C27  (by omega) hs_t (by omega) hs_a fun r_ta w7 hr_ta f7 => back_bool ?_)
  replace fr := fr.trans f7 fun _ h => h.elim
  have z7 := f7.size
  replace hs_a := hs_a.fr0 f7
  replace hs_b := hs_b.fr0 f7
  replace hs_u := hs_u.fr0 f7
  replace hs_v := hs_v.fr0 f7
  replace hs_t := hs_t.fr0 f7
  replace bna := bna.fr f7 id
  replace bnb := bnb.fr f7 id
  replace bnu := bnu.fr f7 id
  replace bnv := bnv.fr f7 id
  refine Chk1_iff.2 ⟨by rw [bnu.cell]; rfl, ?_⟩
  refine Chk1_iff.2 ⟨by rw [bnu.cell]; rfl, ?_⟩
  refine Chk1_iff.2 ⟨by rw [bnv.cell]; rfl, ?_⟩
  refine Chk1_iff.2 ⟨by rw [bnv.cell]; rfl, ?_⟩
  refine Chk1_iff.2 ⟨by rw [bnb.cell]; rfl, ?_⟩
  refine Chk1_iff.2 ⟨by rw [bnb.cell]; rfl, ?_⟩
  refine Chk1_iff.2 ⟨by rw [bnv.cell]; rfl, ?_⟩
  refine Chk1_iff.2 ⟨by rw [bnv.cell]; rfl, ?_⟩
  refine Chk1_iff.2 ⟨by rw [bna.cell]; rfl, ?_⟩
  refine Chk1_iff.2 ⟨by rw [bna.cell]; rfl, ?_⟩
  refine Chk1_iff.2 ⟨by rw [bnb.cell]; rfl, ?_⟩
  refine Chk1_iff.2 ⟨by rw [bnb.cell]; rfl, ?_⟩
  refine Chk1_iff.2 ⟨by rw [bnu.cell]; rfl, ?_⟩
  refine Chk1_iff.2 ⟨by rw [bnu.cell]; rfl, ?_⟩
  refine Chk1_iff.2 ⟨by rw [bna.cell]; rfl, ?_⟩
  refine Chk1_iff.2 ⟨by rw [bna.cell]; rfl, ?_⟩
  refine Chk1_iff.2 ⟨by rw [bnu.cell]; rfl, ?_⟩
  refine Chk1_iff.2 ⟨by rw [bnu.cell]; rfl, ?_⟩
  have hft : ∀ j, f_t j = (f_u j || decide (j = 500)) := fun j => by rw [← ef_t]
  have t_ta : r_ta = true := hr_ta.2 ⟨by
    have h1 : cnt n_t f_t = cnt 500 f_t + 1 := by
      have : n_t = 500 + 1 := by omega
      rw [this]
      simp only [cnt, hft 500]; simp
    have h2 : cnt 500 f_a = cnt n_a f_a := cnt_more (by omega) hs_a.lt
    have h3 : cnt 500 f_a ≤ cnt 500 f_t := cnt_mono fun j _ hj => by rw [hft, hu, hj]; rfl
    omega, fun j hj => by rw [hft, hu, hj]; rfl⟩
  rw [t_ta, BIf_true]
  refine load_int bna rfl ?_
  refine load_slice bna rfl ?_
  refine load_int bnb rfl ?_
  refine load_slice bnb rfl ?_
  refine load_int bnb rfl ?_
  refine load_slice bnb rfl ?_
  refine load_int bna rfl ?_
  refine load_slice bna rfl ?_
  refine F26_call (C26  (by omega) hs_a (by omega) hs_b fun r_ab w8 hr_ab f8 => back_bool ?_)
  replace fr := fr.trans f8 fun _ h => h.elim
  have z8 := f8.size
  replace hs_a := hs_a.fr0 f8
  replace hs_b := hs_b.fr0 f8
  replace hs_u := hs_u.fr0 f8
  replace hs_v := hs_v.fr0 f8
  replace hs_t := hs_t.fr0 f8
  replace bna := bna.fr f8 id
  replace bnb := bnb.fr f8 id
  replace bnu := bnu.fr f8 id
  replace bnv := bnv.fr f8 id
  refine Chk1_iff.2 ⟨by rw [bna.cell]; rfl, ?_⟩
  refine Chk1_iff.2 ⟨by rw [bna.cell]; rfl, ?_⟩
  refine Chk1_iff.2 ⟨by rw [bnb.cell]; rfl, ?_⟩
  refine Chk1_iff.2 ⟨by rw [bnb.cell]; rfl, ?_⟩
  refine Chk1_iff.2 ⟨by rw [bna.cell]; rfl, ?_⟩
  refine Chk1_iff.2 ⟨by rw [bna.cell]; rfl, ?_⟩
  refine Chk1_iff.2 ⟨by rw [bnu.cell]; rfl, ?_⟩
  refine Chk1_iff.2 ⟨by rw [bnu.cell]; rfl, ?_⟩
  refine Chk1_iff.2 ⟨by rw [bnv.cell]; rfl, ?_⟩
  refine Chk1_iff.2 ⟨by rw [bnv.cell]; rfl, ?_⟩
  refine Chk1_iff.2 ⟨by rw [bnb.cell]; rfl, ?_⟩
  refine Chk1_iff.2 ⟨by rw [bnb.cell]; rfl, ?_⟩
  refine Chk1_iff.2 ⟨by rw [bnv.cell]; rfl, ?_⟩
  refine Chk1_iff.2 ⟨by rw [bnv.cell]; rfl, ?_⟩
  refine Chk1_iff.2 ⟨by rw [bna.cell]; rfl, ?_⟩
  refine Chk1_iff.2 ⟨by rw [bna.cell]; rfl, ?_⟩
  refine Chk1_iff.2 ⟨by rw [bnb.cell]; rfl, ?_⟩
  refine Chk1_iff.2 ⟨by rw [bnb.cell]; rfl, ?_⟩
  refine Chk1_iff.2 ⟨by rw [bnu.cell]; rfl, ?_⟩
  refine Chk1_iff.2 ⟨by rw [bnu.cell]; rfl, ?_⟩
  refine Chk1_iff.2 ⟨by rw [bna.cell]; rfl, ?_⟩
  refine Chk1_iff.2 ⟨by rw [bna.cell]; rfl, ?_⟩
  refine Chk1_iff.2 ⟨by rw [bnu.cell]; rfl, ?_⟩
  refine Chk1_iff.2 ⟨by rw [bnu.cell]; rfl, ?_⟩
  refine F28_call (C28  (by omega) hs_b (by omega) hs_a fun w9 f9 => back_int ?_)
  replace fr := fr.trans f9 fun _ h => h.elim
  have z9 := f9.size
  replace hs_a := hs_a.fr0 f9
  replace hs_b := hs_b.fr0 f9
  replace hs_u := hs_u.fr0 f9
  replace hs_v := hs_v.fr0 f9
  replace hs_t := hs_t.fr0 f9
  replace bna := bna.fr f9 id
  replace bnb := bnb.fr f9 id
  replace bnu := bnu.fr f9 id
  replace bnv := bnv.fr f9 id
  refine Chk1_iff.2 ⟨by rw [bnb.cell]; rfl, ?_⟩
  refine Chk1_iff.2 ⟨by rw [bnb.cell]; rfl, ?_⟩
  refine Chk1_iff.2 ⟨by rw [bna.cell]; rfl, ?_⟩
  refine Chk1_iff.2 ⟨by rw [bna.cell]; rfl, ?_⟩
  refine Chk1_iff.2 ⟨by rw [bna.cell]; rfl, ?_⟩
  refine Chk1_iff.2 ⟨by rw [bna.cell]; rfl, ?_⟩
  refine Chk1_iff.2 ⟨by rw [bnu.cell]; rfl, ?_⟩
  refine Chk1_iff.2 ⟨by rw [bnu.cell]; rfl, ?_⟩
  refine Chk1_iff.2 ⟨by rw [bnv.cell]; rfl, ?_⟩
  refine Chk1_iff.2 ⟨by rw [bnv.cell]; rfl, ?_⟩
  refine Chk1_iff.2 ⟨by rw [bnb.cell]; rfl, ?_⟩
  refine Chk1_iff.2 ⟨by rw [bnb.cell]; rfl, ?_⟩
  refine Chk1_iff.2 ⟨by rw [bnv.cell]; rfl, ?_⟩
  refine Chk1_iff.2 ⟨by rw [bnv.cell]; rfl, ?_⟩
  refine Chk1_iff.2 ⟨by rw [bna.cell]; rfl, ?_⟩
  refine Chk1_iff.2 ⟨by rw [bna.cell]; rfl, ?_⟩
  refine Chk1_iff.2 ⟨by rw [bnb.cell]; rfl, ?_⟩
  refine Chk1_iff.2 ⟨by rw [bnb.cell]; rfl, ?_⟩
  refine Chk1_iff.2 ⟨by rw [bnu.cell]; rfl, ?_⟩
  refine Chk1_iff.2 ⟨by rw [bnu.cell]; rfl, ?_⟩
  refine Chk1_iff.2 ⟨by rw [bna.cell]; rfl, ?_⟩
  refine Chk1_iff.2 ⟨by rw [bna.cell]; rfl, ?_⟩
  refine Chk1_iff.2 ⟨by rw [bnu.cell]; rfl, ?_⟩
  refine Chk1_iff.2 ⟨by rw [bnu.cell]; rfl, ?_⟩
  have e : (r_ab == (((cnt n_b (fun j => f_b j && !f_a j) : Nat) : Int) == 0)) = true := by
    have hz : (((cnt n_b (fun j => f_b j && !f_a j) : Nat) : Int) == 0) = decide (cnt n_b (fun j => f_b j && !f_a j) = 0) := by
      generalize cnt n_b (fun j => f_b j && !f_a j) = z
      cases z <;> rfl
    rw [hz, beq_iff_eq, Bool.eq_iff_iff, hr_ab, decide_eq_true_iff, cnt_eq_zero]
    constructor
    · intro h i hi
      cases hb : f_b i with
      | false => rfl
      | true => rw [h i hb]; rfl
    · intro h j hj
      have := h j (hs_b.lt j hj)
      rw [hj] at this
      simpa using this
  rw [e]
  exact hk _ fr

/-- Union and intersection, in either order. -/
theorem F6_J1_spec {n_a c_a lo_a hi_a : Nat} {p_a : Option Addr} {f_a : Nat → Bool} {n_b c_b lo_b hi_b : Nat} {p_b : Option Addr} {f_b : Nat → Bool} {na : Nat} {nb : Nat} {k : Value → W} {w : World} (hs_a : BV w lo_a hi_a n_a p_a f_a) (hs_b : BV w lo_b hi_b n_b p_b f_b) (bna : Blk w na 25 [.int .u64 n_a, .slice p_a (L n_a f_a).length c_a]) (bnb : Blk w nb 25 [.int .u64 n_b, .slice p_b (L n_b f_b).length c_b]) (hz_a : hi_a ≤ w.heap.size) (hz_b : hi_b ≤ w.heap.size) (hna : n_a ≤ 400) (hnb : n_b ≤ 400)
    (hk : ∀ w', Fr (fun _ => False) w w' → k (.bool true) w') : F6_J1 k ⟨na, 0, none⟩ ⟨nb, 0, none⟩ w := by
  unfold F6_J1
  simp only [add_mk, Nat.zero_add, Nat.add_zero]
  have lna := bna.lt
  have lnb := bnb.lt
  refine drw_intro fun w1 f1 z1 => ?_
  have fr := f1
  replace hs_a := hs_a.fr0 f1
  replace hs_b := hs_b.fr0 f1
  replace bna := bna.fr f1 id
  replace bnb := bnb.fr f1 id
  refine load_int bna rfl ?_
  refine load_slice bna rfl ?_
  refine load_int bnb rfl ?_
  refine load_slice bnb rfl ?_
  refine load_int bna rfl ?_
  refine load_slice bna rfl ?_
  refine load_int bnb rfl ?_
  refine load_slice bnb rfl ?_
  refine ⟨?_, ?_⟩
  · refine F25_call (C25  (by omega) hs_a (by omega) hs_b fun p_u c_u w2 hs_u f2 => back_bits ?_)
    generalize en_u : (max n_a n_b) = n_u at hs_u ⊢
    generalize ef_u : (fun j => f_a j || f_b j) = f_u at hs_u ⊢
    replace fr := fr.trans f2 fun _ h => h.elim
    have z2 := f2.size
    replace hs_a := hs_a.fr0 f2
    replace hs_b := hs_b.fr0 f2
    replace bna := bna.fr f2 id
    replace bnb := bnb.fr f2 id
    refine Chk1_iff.2 ⟨by rw [bnb.cell]; rfl, ?_⟩
    refine Chk1_iff.2 ⟨by rw [bnb.cell]; rfl, ?_⟩
    refine Chk1_iff.2 ⟨by rw [bna.cell]; rfl, ?_⟩
    refine Chk1_iff.2 ⟨by rw [bna.cell]; rfl, ?_⟩
    refine ⟨?_, ?_⟩
    · refine F20_call (C20  (by omega) hs_a (by omega) hs_b fun p_v c_v w3 hs_v f3 => back_bits ?_)
      generalize en_v : (min n_a n_b) = n_v at hs_v ⊢
      generalize ef_v : (fun j => f_a j && f_b j) = f_v at hs_v ⊢
      replace fr := fr.trans f3 fun _ h => h.elim
      have z3 := f3.size
      replace hs_a := hs_a.fr0 f3
      replace hs_b := hs_b.fr0 f3
      replace hs_u := hs_u.fr0 f3
      replace bna := bna.fr f3 id
      replace bnb := bnb.fr f3 id
      refine Chk1_iff.2 ⟨by rw [bnb.cell]; rfl, ?_⟩
      refine Chk1_iff.2 ⟨by rw [bnb.cell]; rfl, ?_⟩
      refine Chk1_iff.2 ⟨by rw [bna.cell]; rfl, ?_⟩
      refine Chk1_iff.2 ⟨by rw [bna.cell]; rfl, ?_⟩
      refine ⟨?_, ?_⟩
      · refine new_intro fun n37 w4 e4 bn37 f4 z4 => ?_
        replace fr := fr.trans f4 fun _ h => h.elim
        replace hs_a := hs_a.fr0 f4
        replace hs_b := hs_b.fr0 f4
        replace hs_u := hs_u.fr0 f4
        replace hs_v := hs_v.fr0 f4
        replace bna := bna.fr f4 id
        replace bnb := bnb.fr f4 id
        refine Chk1_iff.2 ⟨by rw [bnb.cell]; rfl, ?_⟩
        refine Chk1_iff.2 ⟨by rw [bnb.cell]; rfl, ?_⟩
        refine Chk1_iff.2 ⟨by rw [bna.cell]; rfl, ?_⟩
        refine Chk1_iff.2 ⟨by rw [bna.cell]; rfl, ?_⟩
        refine Chk1_iff.2 ⟨by rw [bnb.cell]; rfl, ?_⟩
        refine Chk1_iff.2 ⟨by rw [bnb.cell]; rfl, ?_⟩
        refine Chk1_iff.2 ⟨by rw [bna.cell]; rfl, ?_⟩
        refine Chk1_iff.2 ⟨by rw [bna.cell]; rfl, ?_⟩
        refine new_intro fun n38 w5 e5 bn38 f5 z5 => ?_
        replace fr := fr.trans f5 fun _ h => h.elim
        replace hs_a := hs_a.fr0 f5
        replace hs_b := hs_b.fr0 f5
        replace hs_u := hs_u.fr0 f5
        replace hs_v := hs_v.fr0 f5
        replace bna := bna.fr f5 id
        replace bnb := bnb.fr f5 id
        replace bn37 := bn37.fr f5 id
        refine Chk1_iff.2 ⟨by rw [bnb.cell]; rfl, ?_⟩
        refine Chk1_iff.2 ⟨by rw [bnb.cell]; rfl, ?_⟩
        refine Chk1_iff.2 ⟨by rw [bna.cell]; rfl, ?_⟩
        refine Chk1_iff.2 ⟨by rw [bna.cell]; rfl, ?_⟩
        refine Chk1_iff.2 ⟨by rw [bnb.cell]; rfl, ?_⟩
        refine Chk1_iff.2 ⟨by rw [bnb.cell]; rfl, ?_⟩
        refine Chk1_iff.2 ⟨by rw [bna.cell]; rfl, ?_⟩
        refine Chk1_iff.2 ⟨by rw [bna.cell]; rfl, ?_⟩
        refine store_intro bn37 (by simp) rfl fun w6 bn37 f6 z6 => ?_
        replace fr := fr.trans f6 fun x (e : x = n37) => .inr (by omega)
        replace hs_a := hs_a.st f6 (by omega)
        replace hs_b := hs_b.st f6 (by omega)
        replace hs_u := hs_u.st f6 (by omega)
        replace hs_v := hs_v.st f6 (by omega)
        replace bna := bna.fr f6 (show ¬ na = n37 by omega)
        replace bnb := bnb.fr f6 (show ¬ nb = n37 by omega)
        replace bn38 := bn38.fr f6 (show ¬ n38 = n37 by omega)
        refine store_intro bn37 (by simp) rfl fun w7 bn37 f7 z7 => ?_
        replace fr := fr.trans f7 fun x (e : x = n37) => .inr (by omega)
        replace hs_a := hs_a.st f7 (by omega)
        replace hs_b := hs_b.st f7 (by omega)
        replace hs_u := hs_u.st f7 (by omega)
        replace hs_v := hs_v.st f7 (by omega)
        replace bna := bna.fr f7 (show ¬ na = n37 by omega)
        replace bnb := bnb.fr f7 (show ¬ nb = n37 by omega)
        replace bn38 := bn38.fr f7 (show ¬ n38 = n37 by omega)
        refine Chk1_iff.2 ⟨by rw [bnb.cell]; rfl, ?_⟩
        refine Chk1_iff.2 ⟨by rw [bnb.cell]; rfl, ?_⟩
        refine Chk1_iff.2 ⟨by rw [bna.cell]; rfl, ?_⟩
        refine Chk1_iff.2 ⟨by rw [bna.cell]; rfl, ?_⟩
        refine store_intro bn38 (by simp) rfl fun w8 bn38 f8 z8 => ?_
        replace fr := fr.trans f8 fun x (e : x = n38) => .inr (by omega)
        replace hs_a := hs_a.st f8 (by omega)
        replace hs_b := hs_b.st f8 (by omega)
        replace hs_u := hs_u.st f8 (by omega)
        replace hs_v := hs_v.st f8 (by omega)
        replace bna := bna.fr f8 (show ¬ na = n38 by omega)
        replace bnb := bnb.fr f8 (show ¬ nb = n38 by omega)
        replace bn37 := bn37.fr f8 (show ¬ n37 = n38 by omega)
        refine store_intro bn38 (by simp) rfl fun w9 bn38 f9 z9 => ?_
        replace fr := fr.trans f9 fun x (e : x = n38) => .inr (by omega)
        replace hs_a := hs_a.st f9 (by omega)
        replace hs_b := hs_b.st f9 (by omega)
        replace hs_u := hs_u.st f9 (by omega)
        replace hs_v := hs_v.st f9 (by omega)
        replace bna := bna.fr f9 (show ¬ na = n38 by omega)
        replace bnb := bnb.fr f9 (show ¬ nb = n38 by omega)
        replace bn37 := bn37.fr f9 (show ¬ n37 = n38 by omega)
        exact F6_J2_spec hs_a hs_b hs_u hs_v bna bnb bn37 bn38 (by omega) (by omega) (by omega) (by omega) hna hnb (by omega) (by omega) (fun j => by rw [← ef_u]) (fun j => by rw [← ef_v]) fun w9 f9 => hk _ (fr.trans f9 fun _ h => h.elim)
      · refine new_intro fun n80 w4 e4 bn80 f4 z4 => ?_
        replace fr := fr.trans f4 fun _ h => h.elim
        replace hs_a := hs_a.fr0 f4
        replace hs_b := hs_b.fr0 f4
        replace hs_u := hs_u.fr0 f4
        replace hs_v := hs_v.fr0 f4
        replace bna := bna.fr f4 id
        replace bnb := bnb.fr f4 id
        refine Chk1_iff.2 ⟨by rw [bnb.cell]; rfl, ?_⟩
        refine Chk1_iff.2 ⟨by rw [bnb.cell]; rfl, ?_⟩
        refine Chk1_iff.2 ⟨by rw [bna.cell]; rfl, ?_⟩
        refine Chk1_iff.2 ⟨by rw [bna.cell]; rfl, ?_⟩
        refine Chk1_iff.2 ⟨by rw [bnb.cell]; rfl, ?_⟩
        refine Chk1_iff.2 ⟨by rw [bnb.cell]; rfl, ?_⟩
        refine Chk1_iff.2 ⟨by rw [bna.cell]; rfl, ?_⟩
        refine Chk1_iff.2 ⟨by rw [bna.cell]; rfl, ?_⟩
        refine new_intro fun n81 w5 e5 bn81 f5 z5 => ?_
        replace fr := fr.trans f5 fun _ h => h.elim
        replace hs_a := hs_a.fr0 f5
        replace hs_b := hs_b.fr0 f5
        replace hs_u := hs_u.fr0 f5
        replace hs_v := hs_v.fr0 f5
        replace bna := bna.fr f5 id
        replace bnb := bnb.fr f5 id
        replace bn80 := bn80.fr f5 id
        refine Chk1_iff.2 ⟨by rw [bnb.cell]; rfl, ?_⟩
        refine Chk1_iff.2 ⟨by rw [bnb.cell]; rfl, ?_⟩
        refine Chk1_iff.2 ⟨by rw [bna.cell]; rfl, ?_⟩
        refine Chk1_iff.2 ⟨by rw [bna.cell]; rfl, ?_⟩
        refine Chk1_iff.2 ⟨by rw [bnb.cell]; rfl, ?_⟩
        refine Chk1_iff.2 ⟨by rw [bnb.cell]; rfl, ?_⟩
        refine Chk1_iff.2 ⟨by rw [bna.cell]; rfl, ?_⟩
        refine Chk1_iff.2 ⟨by rw [bna.cell]; rfl, ?_⟩
        refine store_intro bn81 (by simp) rfl fun w6 bn81 f6 z6 => ?_
        replace fr := fr.trans f6 fun x (e : x = n81) => .inr (by omega)
        replace hs_a := hs_a.st f6 (by omega)
        replace hs_b := hs_b.st f6 (by omega)
        replace hs_u := hs_u.st f6 (by omega)
        replace hs_v := hs_v.st f6 (by omega)
        replace bna := bna.fr f6 (show ¬ na = n81 by omega)
        replace bnb := bnb.fr f6 (show ¬ nb = n81 by omega)
        replace bn80 := bn80.fr f6 (show ¬ n80 = n81 by omega)
        refine store_intro bn81 (by simp) rfl fun w7 bn81 f7 z7 => ?_
        replace fr := fr.trans f7 fun x (e : x = n81) => .inr (by omega)
        replace hs_a := hs_a.st f7 (by omega)
        replace hs_b := hs_b.st f7 (by omega)
        replace hs_u := hs_u.st f7 (by omega)
        replace hs_v := hs_v.st f7 (by omega)
        replace bna := bna.fr f7 (show ¬ na = n81 by omega)
        replace bnb := bnb.fr f7 (show ¬ nb = n81 by omega)
        replace bn80 := bn80.fr f7 (show ¬ n80 = n81 by omega)
        refine Chk1_iff.2 ⟨by rw [bnb.cell]; rfl, ?_⟩
        refine Chk1_iff.2 ⟨by rw [bnb.cell]; rfl, ?_⟩
        refine Chk1_iff.2 ⟨by rw [bna.cell]; rfl, ?_⟩
        refine Chk1_iff.2 ⟨by rw [bna.cell]; rfl, ?_⟩
        refine store_intro bn80 (by simp) rfl fun w8 bn80 f8 z8 => ?_
        replace fr := fr.trans f8 fun x (e : x = n80) => .inr (by omega)
        replace hs_a := hs_a.st f8 (by omega)
        replace hs_b := hs_b.st f8 (by omega)
        replace hs_u := hs_u.st f8 (by omega)
        replace hs_v := hs_v.st f8 (by omega)
        replace bna := bna.fr f8 (show ¬ na = n80 by omega)
        replace bnb := bnb.fr f8 (show ¬ nb = n80 by omega)
        replace bn81 := bn81.fr f8 (show ¬ n81 = n80 by omega)
        refine store_intro bn80 (by simp) rfl fun w9 bn80 f9 z9 => ?_
        replace fr := fr.trans f9 fun x (e : x = n80) => .inr (by omega)
        replace hs_a := hs_a.st f9 (by omega)
        replace hs_b := hs_b.st f9 (by omega)
        replace hs_u := hs_u.st f9 (by omega)
        replace hs_v := hs_v.st f9 (by omega)
        replace bna := bna.fr f9 (show ¬ na = n80 by omega)
        replace bnb := bnb.fr f9 (show ¬ nb = n80 by omega)
        replace bn81 := bn81.fr f9 (show ¬ n81 = n80 by omega)
        exact F6_J2_spec hs_a hs_b hs_u hs_v bna bnb bn81 bn80 (by omega) (by omega) (by omega) (by omega) hna hnb (by omega) (by omega) (fun j => by rw [← ef_u]) (fun j => by rw [← ef_v]) fun w9 f9 => hk _ (fr.trans f9 fun _ h => h.elim)
    · refine ⟨?_, ?_⟩
      · refine new_intro fun n82 w3 e3 bn82 f3 z3 => ?_
        replace fr := fr.trans f3 fun _ h => h.elim
        replace hs_a := hs_a.fr0 f3
        replace hs_b := hs_b.fr0 f3
        replace hs_u := hs_u.fr0 f3
        replace bna := bna.fr f3 id
        replace bnb := bnb.fr f3 id
        refine Chk1_iff.2 ⟨by rw [bnb.cell]; rfl, ?_⟩
        refine Chk1_iff.2 ⟨by rw [bnb.cell]; rfl, ?_⟩
        refine Chk1_iff.2 ⟨by rw [bna.cell]; rfl, ?_⟩
        refine Chk1_iff.2 ⟨by rw [bna.cell]; rfl, ?_⟩
        refine Chk1_iff.2 ⟨by rw [bnb.cell]; rfl, ?_⟩
        refine Chk1_iff.2 ⟨by rw [bnb.cell]; rfl, ?_⟩
        refine Chk1_iff.2 ⟨by rw [bna.cell]; rfl, ?_⟩
        refine Chk1_iff.2 ⟨by rw [bna.cell]; rfl, ?_⟩
        refine ⟨?_, ?_⟩
        · refine F20_call (C20  (by omega) hs_a (by omega) hs_b fun p_v c_v w4 hs_v f4 => back_bits ?_)
          generalize en_v : (min n_a n_b) = n_v at hs_v ⊢
          generalize ef_v : (fun j => f_a j && f_b j) = f_v at hs_v ⊢
          replace fr := fr.trans f4 fun _ h => h.elim
          have z4 := f4.size
          replace hs_a := hs_a.fr0 f4
          replace hs_b := hs_b.fr0 f4
          replace hs_u := hs_u.fr0 f4
          replace bna := bna.fr f4 id
          replace bnb := bnb.fr f4 id
          replace bn82 := bn82.fr f4 id
          refine Chk1_iff.2 ⟨by rw [bnb.cell]; rfl, ?_⟩
          refine Chk1_iff.2 ⟨by rw [bnb.cell]; rfl, ?_⟩
          refine Chk1_iff.2 ⟨by rw [bna.cell]; rfl, ?_⟩
          refine Chk1_iff.2 ⟨by rw [bna.cell]; rfl, ?_⟩
          refine new_intro fun n85 w5 e5 bn85 f5 z5 => ?_
          replace fr := fr.trans f5 fun _ h => h.elim
          replace hs_a := hs_a.fr0 f5
          replace hs_b := hs_b.fr0 f5
          replace hs_u := hs_u.fr0 f5
          replace hs_v := hs_v.fr0 f5
          replace bna := bna.fr f5 id
          replace bnb := bnb.fr f5 id
          replace bn82 := bn82.fr f5 id
          refine Chk1_iff.2 ⟨by rw [bnb.cell]; rfl, ?_⟩
          refine Chk1_iff.2 ⟨by rw [bnb.cell]; rfl, ?_⟩
          refine Chk1_iff.2 ⟨by rw [bna.cell]; rfl, ?_⟩
          refine Chk1_iff.2 ⟨by rw [bna.cell]; rfl, ?_⟩
          refine Chk1_iff.2 ⟨by rw [bnb.cell]; rfl, ?_⟩
          refine Chk1_iff.2 ⟨by rw [bnb.cell]; rfl, ?_⟩
          refine Chk1_iff.2 ⟨by rw [bna.cell]; rfl, ?_⟩
          refine Chk1_iff.2 ⟨by rw [bna.cell]; rfl, ?_⟩
          refine store_intro bn82 (by simp) rfl fun w6 bn82 f6 z6 => ?_
          replace fr := fr.trans f6 fun x (e : x = n82) => .inr (by omega)
          replace hs_a := hs_a.st f6 (by omega)
          replace hs_b := hs_b.st f6 (by omega)
          replace hs_u := hs_u.st f6 (by omega)
          replace hs_v := hs_v.st f6 (by omega)
          replace bna := bna.fr f6 (show ¬ na = n82 by omega)
          replace bnb := bnb.fr f6 (show ¬ nb = n82 by omega)
          replace bn85 := bn85.fr f6 (show ¬ n85 = n82 by omega)
          refine store_intro bn82 (by simp) rfl fun w7 bn82 f7 z7 => ?_
          replace fr := fr.trans f7 fun x (e : x = n82) => .inr (by omega)
          replace hs_a := hs_a.st f7 (by omega)
          replace hs_b := hs_b.st f7 (by omega)
          replace hs_u := hs_u.st f7 (by omega)
          replace hs_v := hs_v.st f7 (by omega)
          replace bna := bna.fr f7 (show ¬ na = n82 by omega)
          replace bnb := bnb.fr f7 (show ¬ nb = n82 by omega)
          replace bn85 := bn85.fr f7 (show ¬ n85 = n82 by omega)
          refine Chk1_iff.2 ⟨by rw [bnb.cell]; rfl, ?_⟩
          refine Chk1_iff.2 ⟨by rw [bnb.cell]; rfl, ?_⟩
          refine Chk1_iff.2 ⟨by rw [bna.cell]; rfl, ?_⟩
          refine Chk1_iff.2 ⟨by rw [bna.cell]; rfl, ?_⟩
          refine store_intro bn85 (by simp) rfl fun w8 bn85 f8 z8 => ?_
          replace fr := fr.trans f8 fun x (e : x = n85) => .inr (by omega)
          replace hs_a := hs_a.st f8 (by omega)
          replace hs_b := hs_b.st f8 (by omega)
          replace hs_u := hs_u.st f8 (by omega)
          replace hs_v := hs_v.st f8 (by omega)
          replace bna := bna.fr f8 (show ¬ na = n85 by omega)
          replace bnb := bnb.fr f8 (show ¬ nb = n85 by omega)
          replace bn82 := bn82.fr f8 (show ¬ n82 = n85 by omega)
          refine store_intro bn85 (by simp) rfl fun w9 bn85 f9 z9 => ?_
          replace fr := fr.trans f9 fun x (e : x = n85) => .inr (by omega)
          replace hs_a := hs_a.st f9 (by omega)
          replace hs_b := hs_b.st f9 (by omega)
          replace hs_u := hs_u.st f9 (by omega)
          replace hs_v := hs_v.st f9 (by omega)
          replace bna := bna.fr f9 (show ¬ na = n85 by omega)
          replace bnb := bnb.fr f9 (show ¬ nb = n85 by omega)
          replace bn82 := bn82.fr f9 (show ¬ n82 = n85 by omega)
          exact F6_J2_spec hs_a hs_b hs_u hs_v bna bnb bn82 bn85 (by omega) (by omega) (by omega) (by omega) hna hnb (by omega) (by omega) (fun j => by rw [← ef_u]) (fun j => by rw [← ef_v]) fun w9 f9 => hk _ (fr.trans f9 fun _ h => h.elim)
        · refine new_intro fun n86 w4 e4 bn86 f4 z4 => ?_
          replace fr := fr.trans f4 fun _ h => h.elim
          replace hs_a := hs_a.fr0 f4
          replace hs_b := hs_b.fr0 f4
          replace hs_u := hs_u.fr0 f4
          replace bna := bna.fr f4 id
          replace bnb := bnb.fr f4 id
          replace bn82 := bn82.fr f4 id
          refine Chk1_iff.2 ⟨by rw [bnb.cell]; rfl, ?_⟩
          refine Chk1_iff.2 ⟨by rw [bnb.cell]; rfl, ?_⟩
          refine Chk1_iff.2 ⟨by rw [bna.cell]; rfl, ?_⟩
          refine Chk1_iff.2 ⟨by rw [bna.cell]; rfl, ?_⟩
          refine Chk1_iff.2 ⟨by rw [bnb.cell]; rfl, ?_⟩
          refine Chk1_iff.2 ⟨by rw [bnb.cell]; rfl, ?_⟩
          refine Chk1_iff.2 ⟨by rw [bna.cell]; rfl, ?_⟩
          refine Chk1_iff.2 ⟨by rw [bna.cell]; rfl, ?_⟩
          refine F20_call (C20  (by omega) hs_a (by omega) hs_b fun p_v c_v w5 hs_v f5 => back_bits ?_)
          generalize en_v : (min n_a n_b) = n_v at hs_v ⊢
          generalize ef_v : (fun j => f_a j && f_b j) = f_v at hs_v ⊢
          replace fr := fr.trans f5 fun _ h => h.elim
          have z5 := f5.size
          replace hs_a := hs_a.fr0 f5
          replace hs_b := hs_b.fr0 f5
          replace hs_u := hs_u.fr0 f5
          replace bna := bna.fr f5 id
          replace bnb := bnb.fr f5 id
          replace bn82 := bn82.fr f5 id
          replace bn86 := bn86.fr f5 id
          refine Chk1_iff.2 ⟨by rw [bnb.cell]; rfl, ?_⟩
          refine Chk1_iff.2 ⟨by rw [bnb.cell]; rfl, ?_⟩
          refine Chk1_iff.2 ⟨by rw [bna.cell]; rfl, ?_⟩
          refine Chk1_iff.2 ⟨by rw [bna.cell]; rfl, ?_⟩
          refine store_intro bn82 (by simp) rfl fun w6 bn82 f6 z6 => ?_
          replace fr := fr.trans f6 fun x (e : x = n82) => .inr (by omega)
          replace hs_a := hs_a.st f6 (by omega)
          replace hs_b := hs_b.st f6 (by omega)
          replace hs_u := hs_u.st f6 (by omega)
          replace hs_v := hs_v.st f6 (by omega)
          replace bna := bna.fr f6 (show ¬ na = n82 by omega)
          replace bnb := bnb.fr f6 (show ¬ nb = n82 by omega)
          replace bn86 := bn86.fr f6 (show ¬ n86 = n82 by omega)
          refine store_intro bn82 (by simp) rfl fun w7 bn82 f7 z7 => ?_
          replace fr := fr.trans f7 fun x (e : x = n82) => .inr (by omega)
          replace hs_a := hs_a.st f7 (by omega)
          replace hs_b := hs_b.st f7 (by omega)
          replace hs_u := hs_u.st f7 (by omega)
          replace hs_v := hs_v.st f7 (by omega)
          replace bna := bna.fr f7 (show ¬ na = n82 by omega)
          replace bnb := bnb.fr f7 (show ¬ nb = n82 by omega)
          replace bn86 := bn86.fr f7 (show ¬ n86 = n82 by omega)
          refine Chk1_iff.2 ⟨by rw [bnb.cell]; rfl, ?_⟩
          refine Chk1_iff.2 ⟨by rw [bnb.cell]; rfl, ?_⟩
          refine Chk1_iff.2 ⟨by rw [bna.cell]; rfl, ?_⟩
          refine Chk1_iff.2 ⟨by rw [bna.cell]; rfl, ?_⟩
          refine store_intro bn86 (by simp) rfl fun w8 bn86 f8 z8 => ?_
          replace fr := fr.trans f8 fun x (e : x = n86) => .inr (by omega)
          replace hs_a := hs_a.st f8 (by omega)
          replace hs_b := hs_b.st f8 (by omega)
          replace hs_u := hs_u.st f8 (by omega)
          replace hs_v := hs_v.st f8 (by omega)
          replace bna := bna.fr f8 (show ¬ na = n86 by omega)
          replace bnb := bnb.fr f8 (show ¬ nb = n86 by omega)
          replace bn82 := bn82.fr f8 (show ¬ n82 = n86 by omega)
          refine store_intro bn86 (by simp) rfl fun w9 bn86 f9 z9 => ?_
          replace fr := fr.trans f9 fun x (e : x = n86) => .inr (by omega)
          replace hs_a := hs_a.st f9 (by omega)
          replace hs_b := hs_b.st f9 (by omega)
          replace hs_u := hs_u.st f9 (by omega)
          replace hs_v := hs_v.st f9 (by omega)
          replace bna := bna.fr f9 (show ¬ na = n86 by omega)
          replace bnb := bnb.fr f9 (show ¬ nb = n86 by omega)
          replace bn82 := bn82.fr f9 (show ¬ n82 = n86 by omega)
          exact F6_J2_spec hs_a hs_b hs_u hs_v bna bnb bn82 bn86 (by omega) (by omega) (by omega) (by omega) hna hnb (by omega) (by omega) (fun j => by rw [← ef_u]) (fun j => by rw [← ef_v]) fun w9 f9 => hk _ (fr.trans f9 fun _ h => h.elim)
      · refine new_intro fun n89 w3 e3 bn89 f3 z3 => ?_
        replace fr := fr.trans f3 fun _ h => h.elim
        replace hs_a := hs_a.fr0 f3
        replace hs_b := hs_b.fr0 f3
        replace hs_u := hs_u.fr0 f3
        replace bna := bna.fr f3 id
        replace bnb := bnb.fr f3 id
        refine Chk1_iff.2 ⟨by rw [bnb.cell]; rfl, ?_⟩
        refine Chk1_iff.2 ⟨by rw [bnb.cell]; rfl, ?_⟩
        refine Chk1_iff.2 ⟨by rw [bna.cell]; rfl, ?_⟩
        refine Chk1_iff.2 ⟨by rw [bna.cell]; rfl, ?_⟩
        refine Chk1_iff.2 ⟨by rw [bnb.cell]; rfl, ?_⟩
        refine Chk1_iff.2 ⟨by rw [bnb.cell]; rfl, ?_⟩
        refine Chk1_iff.2 ⟨by rw [bna.cell]; rfl, ?_⟩
        refine Chk1_iff.2 ⟨by rw [bna.cell]; rfl, ?_⟩
        refine ⟨?_, ?_⟩
        · refine F20_call (C20  (by omega) hs_a (by omega) hs_b fun p_v c_v w4 hs_v f4 => back_bits ?_)
          generalize en_v : (min n_a n_b) = n_v at hs_v ⊢
          generalize ef_v : (fun j => f_a j && f_b j) = f_v at hs_v ⊢
          replace fr := fr.trans f4 fun _ h => h.elim
          have z4 := f4.size
          replace hs_a := hs_a.fr0 f4
          replace hs_b := hs_b.fr0 f4
          replace hs_u := hs_u.fr0 f4
          replace bna := bna.fr f4 id
          replace bnb := bnb.fr f4 id
          replace bn89 := bn89.fr f4 id
          refine Chk1_iff.2 ⟨by rw [bnb.cell]; rfl, ?_⟩
          refine Chk1_iff.2 ⟨by rw [bnb.cell]; rfl, ?_⟩
          refine Chk1_iff.2 ⟨by rw [bna.cell]; rfl, ?_⟩
          refine Chk1_iff.2 ⟨by rw [bna.cell]; rfl, ?_⟩
          refine new_intro fun n92 w5 e5 bn92 f5 z5 => ?_
          replace fr := fr.trans f5 fun _ h => h.elim
          replace hs_a := hs_a.fr0 f5
          replace hs_b := hs_b.fr0 f5
          replace hs_u := hs_u.fr0 f5
          replace hs_v := hs_v.fr0 f5
          replace bna := bna.fr f5 id
          replace bnb := bnb.fr f5 id
          replace bn89 := bn89.fr f5 id
          refine Chk1_iff.2 ⟨by rw [bnb.cell]; rfl, ?_⟩
          refine Chk1_iff.2 ⟨by rw [bnb.cell]; rfl, ?_⟩
          refine Chk1_iff.2 ⟨by rw [bna.cell]; rfl, ?_⟩
          refine Chk1_iff.2 ⟨by rw [bna.cell]; rfl, ?_⟩
          refine Chk1_iff.2 ⟨by rw [bnb.cell]; rfl, ?_⟩
          refine Chk1_iff.2 ⟨by rw [bnb.cell]; rfl, ?_⟩
          refine Chk1_iff.2 ⟨by rw [bna.cell]; rfl, ?_⟩
          refine Chk1_iff.2 ⟨by rw [bna.cell]; rfl, ?_⟩
          refine store_intro bn92 (by simp) rfl fun w6 bn92 f6 z6 => ?_
          replace fr := fr.trans f6 fun x (e : x = n92) => .inr (by omega)
          replace hs_a := hs_a.st f6 (by omega)
          replace hs_b := hs_b.st f6 (by omega)
          replace hs_u := hs_u.st f6 (by omega)
          replace hs_v := hs_v.st f6 (by omega)
          replace bna := bna.fr f6 (show ¬ na = n92 by omega)
          replace bnb := bnb.fr f6 (show ¬ nb = n92 by omega)
          replace bn89 := bn89.fr f6 (show ¬ n89 = n92 by omega)
          refine store_intro bn92 (by simp) rfl fun w7 bn92 f7 z7 => ?_
          replace fr := fr.trans f7 fun x (e : x = n92) => .inr (by omega)
          replace hs_a := hs_a.st f7 (by omega)
          replace hs_b := hs_b.st f7 (by omega)
          replace hs_u := hs_u.st f7 (by omega)
          replace hs_v := hs_v.st f7 (by omega)
          replace bna := bna.fr f7 (show ¬ na = n92 by omega)
          replace bnb := bnb.fr f7 (show ¬ nb = n92 by omega)
          replace bn89 := bn89.fr f7 (show ¬ n89 = n92 by omega)
          refine Chk1_iff.2 ⟨by rw [bnb.cell]; rfl, ?_⟩
          refine Chk1_iff.2 ⟨by rw [bnb.cell]; rfl, ?_⟩
          refine Chk1_iff.2 ⟨by rw [bna.cell]; rfl, ?_⟩
          refine Chk1_iff.2 ⟨by rw [bna.cell]; rfl, ?_⟩
          refine store_intro bn89 (by simp) rfl fun w8 bn89 f8 z8 => ?_
          replace fr := fr.trans f8 fun x (e : x = n89) => .inr (by omega)
          replace hs_a := hs_a.st f8 (by omega)
          replace hs_b := hs_b.st f8 (by omega)
          replace hs_u := hs_u.st f8 (by omega)
          replace hs_v := hs_v.st f8 (by omega)
          replace bna := bna.fr f8 (show ¬ na = n89 by omega)
          replace bnb := bnb.fr f8 (show ¬ nb = n89 by omega)
          replace bn92 := bn92.fr f8 (show ¬ n92 = n89 by omega)
          refine store_intro bn89 (by simp) rfl fun w9 bn89 f9 z9 => ?_
          replace fr := fr.trans f9 fun x (e : x = n89) => .inr (by omega)
          replace hs_a := hs_a.st f9 (by omega)
          replace hs_b := hs_b.st f9 (by omega)
          replace hs_u := hs_u.st f9 (by omega)
          replace hs_v := hs_v.st f9 (by omega)
          replace bna := bna.fr f9 (show ¬ na = n89 by omega)
          replace bnb := bnb.fr f9 (show ¬ nb = n89 by omega)
          replace bn92 := bn92.fr f9 (show ¬ n92 = n89 by omega)
          exact F6_J2_spec hs_a hs_b hs_u hs_v bna bnb bn92 bn89 (by omega) (by omega) (by omega) (by omega) hna hnb (by omega) (by omega) (fun j => by rw [← ef_u]) (fun j => by rw [← ef_v]) fun w9 f9 => hk _ (fr.trans f9 fun _ h => h.elim)
        · refine new_intro fun n93 w4 e4 bn93 f4 z4 => ?_
          replace fr := fr.trans f4 fun _ h => h.elim
          replace hs_a := hs_a.fr0 f4
          replace hs_b := hs_b.fr0 f4
          replace hs_u := hs_u.fr0 f4
          replace bna := bna.fr f4 id
          replace bnb := bnb.fr f4 id
          replace bn89 := bn89.fr f4 id
          refine Chk1_iff.2 ⟨by rw [bnb.cell]; rfl, ?_⟩
          refine Chk1_iff.2 ⟨by rw [bnb.cell]; rfl, ?_⟩
          refine Chk1_iff.2 ⟨by rw [bna.cell]; rfl, ?_⟩
          refine Chk1_iff.2 ⟨by rw [bna.cell]; rfl, ?_⟩
          refine Chk1_iff.2 ⟨by rw [bnb.cell]; rfl, ?_⟩
          refine Chk1_iff.2 ⟨by rw [bnb.cell]; rfl, ?_⟩
          refine Chk1_iff.2 ⟨by rw [bna.cell]; rfl, ?_⟩
          refine Chk1_iff.2 ⟨by rw [bna.cell]; rfl, ?_⟩
          refine F20_call (C20  (by omega) hs_a (by omega) hs_b fun p_v c_v w5 hs_v f5 => back_bits ?_)
          generalize en_v : (min n_a n_b) = n_v at hs_v ⊢
          generalize ef_v : (fun j => f_a j && f_b j) = f_v at hs_v ⊢
          replace fr := fr.trans f5 fun _ h => h.elim
          have z5 := f5.size
          replace hs_a := hs_a.fr0 f5
          replace hs_b := hs_b.fr0 f5
          replace hs_u := hs_u.fr0 f5
          replace bna := bna.fr f5 id
          replace bnb := bnb.fr f5 id
          replace bn89 := bn89.fr f5 id
          replace bn93 := bn93.fr f5 id
          refine Chk1_iff.2 ⟨by rw [bnb.cell]; rfl, ?_⟩
          refine Chk1_iff.2 ⟨by rw [bnb.cell]; rfl, ?_⟩
          refine Chk1_iff.2 ⟨by rw [bna.cell]; rfl, ?_⟩
          refine Chk1_iff.2 ⟨by rw [bna.cell]; rfl, ?_⟩
          refine store_intro bn93 (by simp) rfl fun w6 bn93 f6 z6 => ?_
          replace fr := fr.trans f6 fun x (e : x = n93) => .inr (by omega)
          replace hs_a := hs_a.st f6 (by omega)
          replace hs_b := hs_b.st f6 (by omega)
          replace hs_u := hs_u.st f6 (by omega)
          replace hs_v := hs_v.st f6 (by omega)
          replace bna := bna.fr f6 (show ¬ na = n93 by omega)
          replace bnb := bnb.fr f6 (show ¬ nb = n93 by omega)
          replace bn89 := bn89.fr f6 (show ¬ n89 = n93 by omega)
          refine store_intro bn93 (by simp) rfl fun w7 bn93 f7 z7 => ?_
          replace fr := fr.trans f7 fun x (e : x = n93) => .inr (by omega)
          replace hs_a := hs_a.st f7 (by omega)
          replace hs_b := hs_b.st f7 (by omega)
          replace hs_u := hs_u.st f7 (by omega)
          replace hs_v := hs_v.st f7 (by omega)
          replace bna := bna.fr f7 (show ¬ na = n93 by omega)
          replace bnb := bnb.fr f7 (show ¬ nb = n93 by omega)
          replace bn89 := bn89.fr f7 (show ¬ n89 = n93 by omega)
          refine Chk1_iff.2 ⟨by rw [bnb.cell]; rfl, ?_⟩
          refine Chk1_iff.2 ⟨by rw [bnb.cell]; rfl, ?_⟩
          refine Chk1_iff.2 ⟨by rw [bna.cell]; rfl, ?_⟩
          refine Chk1_iff.2 ⟨by rw [bna.cell]; rfl, ?_⟩
          refine store_intro bn89 (by simp) rfl fun w8 bn89 f8 z8 => ?_
          replace fr := fr.trans f8 fun x (e : x = n89) => .inr (by omega)
          replace hs_a := hs_a.st f8 (by omega)
          replace hs_b := hs_b.st f8 (by omega)
          replace hs_u := hs_u.st f8 (by omega)
          replace hs_v := hs_v.st f8 (by omega)
          replace bna := bna.fr f8 (show ¬ na = n89 by omega)
          replace bnb := bnb.fr f8 (show ¬ nb = n89 by omega)
          replace bn93 := bn93.fr f8 (show ¬ n93 = n89 by omega)
          refine store_intro bn89 (by simp) rfl fun w9 bn89 f9 z9 => ?_
          replace fr := fr.trans f9 fun x (e : x = n89) => .inr (by omega)
          replace hs_a := hs_a.st f9 (by omega)
          replace hs_b := hs_b.st f9 (by omega)
          replace hs_u := hs_u.st f9 (by omega)
          replace hs_v := hs_v.st f9 (by omega)
          replace bna := bna.fr f9 (show ¬ na = n89 by omega)
          replace bnb := bnb.fr f9 (show ¬ nb = n89 by omega)
          replace bn93 := bn93.fr f9 (show ¬ n93 = n89 by omega)
          exact F6_J2_spec hs_a hs_b hs_u hs_v bna bnb bn93 bn89 (by omega) (by omega) (by omega) (by omega) hna hnb (by omega) (by omega) (fun j => by rw [← ef_u]) (fun j => by rw [← ef_v]) fun w9 f9 => hk _ (fr.trans f9 fun _ h => h.elim)
  · refine ⟨?_, ?_⟩
    · refine new_intro fun n96 w2 e2 bn96 f2 z2 => ?_
      replace fr := fr.trans f2 fun _ h => h.elim
      replace hs_a := hs_a.fr0 f2
      replace hs_b := hs_b.fr0 f2
      replace bna := bna.fr f2 id
      replace bnb := bnb.fr f2 id
      refine Chk1_iff.2 ⟨by rw [bnb.cell]; rfl, ?_⟩
      refine Chk1_iff.2 ⟨by rw [bnb.cell]; rfl, ?_⟩
      refine Chk1_iff.2 ⟨by rw [bna.cell]; rfl, ?_⟩
      refine Chk1_iff.2 ⟨by rw [bna.cell]; rfl, ?_⟩
      refine Chk1_iff.2 ⟨by rw [bnb.cell]; rfl, ?_⟩
      refine Chk1_iff.2 ⟨by rw [bnb.cell]; rfl, ?_⟩
      refine Chk1_iff.2 ⟨by rw [bna.cell]; rfl, ?_⟩
      refine Chk1_iff.2 ⟨by rw [bna.cell]; rfl, ?_⟩
      refine ⟨?_, ?_⟩
      · refine F25_call (C25  (by omega) hs_a (by omega) hs_b fun p_u c_u w3 hs_u f3 => back_bits ?_)
        generalize en_u : (max n_a n_b) = n_u at hs_u ⊢
        generalize ef_u : (fun j => f_a j || f_b j) = f_u at hs_u ⊢
        replace fr := fr.trans f3 fun _ h => h.elim
        have z3 := f3.size
        replace hs_a := hs_a.fr0 f3
        replace hs_b := hs_b.fr0 f3
        replace bna := bna.fr f3 id
        replace bnb := bnb.fr f3 id
        replace bn96 := bn96.fr f3 id
        refine Chk1_iff.2 ⟨by rw [bnb.cell]; rfl, ?_⟩
        refine Chk1_iff.2 ⟨by rw [bnb.cell]; rfl, ?_⟩
        refine Chk1_iff.2 ⟨by rw [bna.cell]; rfl, ?_⟩
        refine Chk1_iff.2 ⟨by rw [bna.cell]; rfl, ?_⟩
        refine ⟨?_, ?_⟩
        · refine F20_call (C20  (by omega) hs_a (by omega) hs_b fun p_v c_v w4 hs_v f4 => back_bits ?_)
          generalize en_v : (min n_a n_b) = n_v at hs_v ⊢
          generalize ef_v : (fun j => f_a j && f_b j) = f_v at hs_v ⊢
          replace fr := fr.trans f4 fun _ h => h.elim
          have z4 := f4.size
          replace hs_a := hs_a.fr0 f4
          replace hs_b := hs_b.fr0 f4
          replace hs_u := hs_u.fr0 f4
          replace bna := bna.fr f4 id
          replace bnb := bnb.fr f4 id
          replace bn96 := bn96.fr f4 id
          refine Chk1_iff.2 ⟨by rw [bnb.cell]; rfl, ?_⟩
          refine Chk1_iff.2 ⟨by rw [bnb.cell]; rfl, ?_⟩
          refine Chk1_iff.2 ⟨by rw [bna.cell]; rfl, ?_⟩
          refine Chk1_iff.2 ⟨by rw [bna.cell]; rfl, ?_⟩
          refine new_intro fun n101 w5 e5 bn101 f5 z5 => ?_
          replace fr := fr.trans f5 fun _ h => h.elim
          replace hs_a := hs_a.fr0 f5
          replace hs_b := hs_b.fr0 f5
          replace hs_u := hs_u.fr0 f5
          replace hs_v := hs_v.fr0 f5
          replace bna := bna.fr f5 id
          replace bnb := bnb.fr f5 id
          replace bn96 := bn96.fr f5 id
          refine Chk1_iff.2 ⟨by rw [bnb.cell]; rfl, ?_⟩
          refine Chk1_iff.2 ⟨by rw [bnb.cell]; rfl, ?_⟩
          refine Chk1_iff.2 ⟨by rw [bna.cell]; rfl, ?_⟩
          refine Chk1_iff.2 ⟨by rw [bna.cell]; rfl, ?_⟩
          refine Chk1_iff.2 ⟨by rw [bnb.cell]; rfl, ?_⟩
          refine Chk1_iff.2 ⟨by rw [bnb.cell]; rfl, ?_⟩
          refine Chk1_iff.2 ⟨by rw [bna.cell]; rfl, ?_⟩
          refine Chk1_iff.2 ⟨by rw [bna.cell]; rfl, ?_⟩
          refine store_intro bn96 (by simp) rfl fun w6 bn96 f6 z6 => ?_
          replace fr := fr.trans f6 fun x (e : x = n96) => .inr (by omega)
          replace hs_a := hs_a.st f6 (by omega)
          replace hs_b := hs_b.st f6 (by omega)
          replace hs_u := hs_u.st f6 (by omega)
          replace hs_v := hs_v.st f6 (by omega)
          replace bna := bna.fr f6 (show ¬ na = n96 by omega)
          replace bnb := bnb.fr f6 (show ¬ nb = n96 by omega)
          replace bn101 := bn101.fr f6 (show ¬ n101 = n96 by omega)
          refine store_intro bn96 (by simp) rfl fun w7 bn96 f7 z7 => ?_
          replace fr := fr.trans f7 fun x (e : x = n96) => .inr (by omega)
          replace hs_a := hs_a.st f7 (by omega)
          replace hs_b := hs_b.st f7 (by omega)
          replace hs_u := hs_u.st f7 (by omega)
          replace hs_v := hs_v.st f7 (by omega)
          replace bna := bna.fr f7 (show ¬ na = n96 by omega)
          replace bnb := bnb.fr f7 (show ¬ nb = n96 by omega)
          replace bn101 := bn101.fr f7 (show ¬ n101 = n96 by omega)
          refine Chk1_iff.2 ⟨by rw [bnb.cell]; rfl, ?_⟩
          refine Chk1_iff.2 ⟨by rw [bnb.cell]; rfl, ?_⟩
          refine Chk1_iff.2 ⟨by rw [bna.cell]; rfl, ?_⟩
          refine Chk1_iff.2 ⟨by rw [bna.cell]; rfl, ?_⟩
          refine store_intro bn101 (by simp) rfl fun w8 bn101 f8 z8 => ?_
          replace fr := fr.trans f8 fun x (e : x = n101) => .inr (by omega)
          replace hs_a := hs_a.st f8 (by omega)
          replace hs_b := hs_b.st f8 (by omega)
          replace hs_u := hs_u.st f8 (by omega)
          replace hs_v := hs_v.st f8 (by omega)
          replace bna := bna.fr f8 (show ¬ na = n101 by omega)
          replace bnb := bnb.fr f8 (show ¬ nb = n101 by omega)
          replace bn96 := bn96.fr f8 (show ¬ n96 = n101 by omega)
          refine store_intro bn101 (by simp) rfl fun w9 bn101 f9 z9 => ?_
          replace fr := fr.trans f9 fun x (e : x = n101) => .inr (by omega)
          replace hs_a := hs_a.st f9 (by omega)
          replace hs_b := hs_b.st f9 (by omega)
          replace hs_u := hs_u.st f9 (by omega)
          replace hs_v := hs_v.st f9 (by omega)
          replace bna := bna.fr f9 (show ¬ na = n101 by omega)
          replace bnb := bnb.fr f9 (show ¬ nb = n101 by omega)
          replace bn96 := bn96.fr f9 (show ¬ n96 = n101 by omega)
          exact F6_J2_spec hs_a hs_b hs_u hs_v bna bnb bn96 bn101 (by omega) (by omega) (by omega) (by omega) hna hnb (by omega) (by omega) (fun j => by rw [← ef_u]) (fun j => by rw [← ef_v]) fun w9 f9 => hk _ (fr.trans f9 fun _ h => h.elim)
        · refine new_intro fun n102 w4 e4 bn102 f4 z4 => ?_
          replace fr := fr.trans f4 fun _ h => h.elim
          replace hs_a := hs_a.fr0 f4
          replace hs_b := hs_b.fr0 f4
          replace hs_u := hs_u.fr0 f4
          replace bna := bna.fr f4 id
          replace bnb := bnb.fr f4 id
          replace bn96 := bn96.fr f4 id
          refine Chk1_iff.2 ⟨by rw [bnb.cell]; rfl, ?_⟩
          refine Chk1_iff.2 ⟨by rw [bnb.cell]; rfl, ?_⟩
          refine Chk1_iff.2 ⟨by rw [bna.cell]; rfl, ?_⟩
          refine Chk1_iff.2 ⟨by rw [bna.cell]; rfl, ?_⟩
          refine Chk1_iff.2 ⟨by rw [bnb.cell]; rfl, ?_⟩
          refine Chk1_iff.2 ⟨by rw [bnb.cell]; rfl, ?_⟩
          refine Chk1_iff.2 ⟨by rw [bna.cell]; rfl, ?_⟩
          refine Chk1_iff.2 ⟨by rw [bna.cell]; rfl, ?_⟩
          refine F20_call (C20  (by omega) hs_a (by omega) hs_b fun p_v c_v w5 hs_v f5 => back_bits ?_)
          generalize en_v : (min n_a n_b) = n_v at hs_v ⊢
          generalize ef_v : (fun j => f_a j && f_b j) = f_v at hs_v ⊢
          replace fr := fr.trans f5 fun _ h => h.elim
          have z5 := f5.size
          replace hs_a := hs_a.fr0 f5
          replace hs_b := hs_b.fr0 f5
          replace hs_u := hs_u.fr0 f5
          replace bna := bna.fr f5 id
          replace bnb := bnb.fr f5 id
          replace bn96 := bn96.fr f5 id
          replace bn102 := bn102.fr f5 id
          refine Chk1_iff.2 ⟨by rw [bnb.cell]; rfl, ?_⟩
          refine Chk1_iff.2 ⟨by rw [bnb.cell]; rfl, ?_⟩
          refine Chk1_iff.2 ⟨by rw [bna.cell]; rfl, ?_⟩
          refine Chk1_iff.2 ⟨by rw [bna.cell]; rfl, ?_⟩
          refine store_intro bn96 (by simp) rfl fun w6 bn96 f6 z6 => ?_
          replace fr := fr.trans f6 fun x (e : x = n96) => .inr (by omega)
          replace hs_a := hs_a.st f6 (by omega)
          replace hs_b := hs_b.st f6 (by omega)
          replace hs_u := hs_u.st f6 (by omega)
          replace hs_v := hs_v.st f6 (by omega)
          replace bna := bna.fr f6 (show ¬ na = n96 by omega)
          replace bnb := bnb.fr f6 (show ¬ nb = n96 by omega)
          replace bn102 := bn102.fr f6 (show ¬ n102 = n96 by omega)
          refine store_intro bn96 (by simp) rfl fun w7 bn96 f7 z7 => ?_
          replace fr := fr.trans f7 fun x (e : x = n96) => .inr (by omega)
          replace hs_a := hs_a.st f7 (by omega)
          replace hs_b := hs_b.st f7 (by omega)
          replace hs_u := hs_u.st f7 (by omega)
          replace hs_v := hs_v.st f7 (by omega)
          replace bna := bna.fr f7 (show ¬ na = n96 by omega)
          replace bnb := bnb.fr f7 (show ¬ nb = n96 by omega)
          replace bn102 := bn102.fr f7 (show ¬ n102 = n96 by omega)
          refine Chk1_iff.2 ⟨by rw [bnb.cell]; rfl, ?_⟩
          refine Chk1_iff.2 ⟨by rw [bnb.cell]; rfl, ?_⟩
          refine Chk1_iff.2 ⟨by rw [bna.cell]; rfl, ?_⟩
          refine Chk1_iff.2 ⟨by rw [bna.cell]; rfl, ?_⟩
          refine store_intro bn102 (by simp) rfl fun w8 bn102 f8 z8 => ?_
          replace fr := fr.trans f8 fun x (e : x = n102) => .inr (by omega)
          replace hs_a := hs_a.st f8 (by omega)
          replace hs_b := hs_b.st f8 (by omega)
          replace hs_u := hs_u.st f8 (by omega)
          replace hs_v := hs_v.st f8 (by omega)
          replace bna := bna.fr f8 (show ¬ na = n102 by omega)
          replace bnb := bnb.fr f8 (show ¬ nb = n102 by omega)
          replace bn96 := bn96.fr f8 (show ¬ n96 = n102 by omega)
          refine store_intro bn102 (by simp) rfl fun w9 bn102 f9 z9 => ?_
          replace fr := fr.trans f9 fun x (e : x = n102) => .inr (by omega)
          replace hs_a := hs_a.st f9 (by omega)
          replace hs_b := hs_b.st f9 (by omega)
          replace hs_u := hs_u.st f9 (by omega)
          replace hs_v := hs_v.st f9 (by omega)
          replace bna := bna.fr f9 (show ¬ na = n102 by omega)
          replace bnb := bnb.fr f9 (show ¬ nb = n102 by omega)
          replace bn96 := bn96.fr f9 (show ¬ n96 = n102 by omega)
          exact F6_J2_spec hs_a hs_b hs_u hs_v bna bnb bn96 bn102 (by omega) (by omega) (by omega) (by omega) hna hnb (by omega) (by omega) (fun j => by rw [← ef_u]) (fun j => by rw [← ef_v]) fun w9 f9 => hk _ (fr.trans f9 fun _ h => h.elim)
      · refine new_intro fun n105 w3 e3 bn105 f3 z3 => ?_
        replace fr := fr.trans f3 fun _ h => h.elim
        replace hs_a := hs_a.fr0 f3
        replace hs_b := hs_b.fr0 f3
        replace bna := bna.fr f3 id
        replace bnb := bnb.fr f3 id
        replace bn96 := bn96.fr f3 id
        refine Chk1_iff.2 ⟨by rw [bnb.cell]; rfl, ?_⟩
        refine Chk1_iff.2 ⟨by rw [bnb.cell]; rfl, ?_⟩
        refine Chk1_iff.2 ⟨by rw [bna.cell]; rfl, ?_⟩
        refine Chk1_iff.2 ⟨by rw [bna.cell]; rfl, ?_⟩
        refine Chk1_iff.2 ⟨by rw [bnb.cell]; rfl, ?_⟩
        refine Chk1_iff.2 ⟨by rw [bnb.cell]; rfl, ?_⟩
        refine Chk1_iff.2 ⟨by rw [bna.cell]; rfl, ?_⟩
        refine Chk1_iff.2 ⟨by rw [bna.cell]; rfl, ?_⟩
        refine F25_call (C25  (by omega) hs_a (by omega) hs_b fun p_u c_u w4 hs_u f4 => back_bits ?_)
        generalize en_u : (max n_a n_b) = n_u at hs_u ⊢
        generalize ef_u : (fun j => f_a j || f_b j) = f_u at hs_u ⊢
        replace fr := fr.trans f4 fun _ h => h.elim
        have z4 := f4.size
        replace hs_a := hs_a.fr0 f4
        replace hs_b := hs_b.fr0 f4
        replace bna := bna.fr f4 id
        replace bnb := bnb.fr f4 id
        replace bn96 := bn96.fr f4 id
        replace bn105 := bn105.fr f4 id
        refine Chk1_iff.2 ⟨by rw [bnb.cell]; rfl, ?_⟩
        refine Chk1_iff.2 ⟨by rw [bnb.cell]; rfl, ?_⟩
        refine Chk1_iff.2 ⟨by rw [bna.cell]; rfl, ?_⟩
        refine Chk1_iff.2 ⟨by rw [bna.cell]; rfl, ?_⟩
        refine F20_call (C20  (by omega) hs_a (by omega) hs_b fun p_v c_v w5 hs_v f5 => back_bits ?_)
        generalize en_v : (min n_a n_b) = n_v at hs_v ⊢
        generalize ef_v : (fun j => f_a j && f_b j) = f_v at hs_v ⊢
        replace fr := fr.trans f5 fun _ h => h.elim
        have z5 := f5.size
        replace hs_a := hs_a.fr0 f5
        replace hs_b := hs_b.fr0 f5
        replace hs_u := hs_u.fr0 f5
        replace bna := bna.fr f5 id
        replace bnb := bnb.fr f5 id
        replace bn96 := bn96.fr f5 id
        replace bn105 := bn105.fr f5 id
        refine Chk1_iff.2 ⟨by rw [bnb.cell]; rfl, ?_⟩
        refine Chk1_iff.2 ⟨by rw [bnb.cell]; rfl, ?_⟩
        refine Chk1_iff.2 ⟨by rw [bna.cell]; rfl, ?_⟩
        refine Chk1_iff.2 ⟨by rw [bna.cell]; rfl, ?_⟩
        refine store_intro bn96 (by simp) rfl fun w6 bn96 f6 z6 => ?_
        replace fr := fr.trans f6 fun x (e : x = n96) => .inr (by omega)
        replace hs_a := hs_a.st f6 (by omega)
        replace hs_b := hs_b.st f6 (by omega)
        replace hs_u := hs_u.st f6 (by omega)
        replace hs_v := hs_v.st f6 (by omega)
        replace bna := bna.fr f6 (show ¬ na = n96 by omega)
        replace bnb := bnb.fr f6 (show ¬ nb = n96 by omega)
        replace bn105 := bn105.fr f6 (show ¬ n105 = n96 by omega)
        refine store_intro bn96 (by simp) rfl fun w7 bn96 f7 z7 => ?_
        replace fr := fr.trans f7 fun x (e : x = n96) => .inr (by omega)
        replace hs_a := hs_a.st f7 (by omega)
        replace hs_b := hs_b.st f7 (by omega)
        replace hs_u := hs_u.st f7 (by omega)
        replace hs_v := hs_v.st f7 (by omega)
        replace bna := bna.fr f7 (show ¬ na = n96 by omega)
        replace bnb := bnb.fr f7 (show ¬ nb = n96 by omega)
        replace bn105 := bn105.fr f7 (show ¬ n105 = n96 by omega)
        refine Chk1_iff.2 ⟨by rw [bnb.cell]; rfl, ?_⟩
        refine Chk1_iff.2 ⟨by rw [bnb.cell]; rfl, ?_⟩
        refine Chk1_iff.2 ⟨by rw [bna.cell]; rfl, ?_⟩
        refine Chk1_iff.2 ⟨by rw [bna.cell]; rfl, ?_⟩
        refine store_intro bn105 (by simp) rfl fun w8 bn105 f8 z8 => ?_
        replace fr := fr.trans f8 fun x (e : x = n105) => .inr (by omega)
        replace hs_a := hs_a.st f8 (by omega)
        replace hs_b := hs_b.st f8 (by omega)
        replace hs_u := hs_u.st f8 (by omega)
        replace hs_v := hs_v.st f8 (by omega)
        replace bna := bna.fr f8 (show ¬ na = n105 by omega)
        replace bnb := bnb.fr f8 (show ¬ nb = n105 by omega)
        replace bn96 := bn96.fr f8 (show ¬ n96 = n105 by omega)
        refine store_intro bn105 (by simp) rfl fun w9 bn105 f9 z9 => ?_
        replace fr := fr.trans f9 fun x (e : x = n105) => .inr (by omega)
        replace hs_a := hs_a.st f9 (by omega)
        replace hs_b := hs_b.st f9 (by omega)
        replace hs_u := hs_u.st f9 (by omega)
        replace hs_v := hs_v.st f9 (by omega)
        replace bna := bna.fr f9 (show ¬ na = n105 by omega)
        replace bnb := bnb.fr f9 (show ¬ nb = n105 by omega)
        replace bn96 := bn96.fr f9 (show ¬ n96 = n105 by omega)
        exact F6_J2_spec hs_a hs_b hs_u hs_v bna bnb bn96 bn105 (by omega) (by omega) (by omega) (by omega) hna hnb (by omega) (by omega) (fun j => by rw [← ef_u]) (fun j => by rw [← ef_v]) fun w9 f9 => hk _ (fr.trans f9 fun _ h => h.elim)
    · refine new_intro fun n110 w2 e2 bn110 f2 z2 => ?_
      replace fr := fr.trans f2 fun _ h => h.elim
      replace hs_a := hs_a.fr0 f2
      replace hs_b := hs_b.fr0 f2
      replace bna := bna.fr f2 id
      replace bnb := bnb.fr f2 id
      refine Chk1_iff.2 ⟨by rw [bnb.cell]; rfl, ?_⟩
      refine Chk1_iff.2 ⟨by rw [bnb.cell]; rfl, ?_⟩
      refine Chk1_iff.2 ⟨by rw [bna.cell]; rfl, ?_⟩
      refine Chk1_iff.2 ⟨by rw [bna.cell]; rfl, ?_⟩
      refine Chk1_iff.2 ⟨by rw [bnb.cell]; rfl, ?_⟩
      refine Chk1_iff.2 ⟨by rw [bnb.cell]; rfl, ?_⟩
      refine Chk1_iff.2 ⟨by rw [bna.cell]; rfl, ?_⟩
      refine Chk1_iff.2 ⟨by rw [bna.cell]; rfl, ?_⟩
      refine ⟨?_, ?_⟩
      · refine F25_call (C25  (by omega) hs_a (by omega) hs_b fun p_u c_u w3 hs_u f3 => back_bits ?_)
        generalize en_u : (max n_a n_b) = n_u at hs_u ⊢
        generalize ef_u : (fun j => f_a j || f_b j) = f_u at hs_u ⊢
        replace fr := fr.trans f3 fun _ h => h.elim
        have z3 := f3.size
        replace hs_a := hs_a.fr0 f3
        replace hs_b := hs_b.fr0 f3
        replace bna := bna.fr f3 id
        replace bnb := bnb.fr f3 id
        replace bn110 := bn110.fr f3 id
        refine Chk1_iff.2 ⟨by rw [bnb.cell]; rfl, ?_⟩
        refine Chk1_iff.2 ⟨by rw [bnb.cell]; rfl, ?_⟩
        refine Chk1_iff.2 ⟨by rw [bna.cell]; rfl, ?_⟩
        refine Chk1_iff.2 ⟨by rw [bna.cell]; rfl, ?_⟩
        refine ⟨?_, ?_⟩
        · refine F20_call (C20  (by omega) hs_a (by omega) hs_b fun p_v c_v w4 hs_v f4 => back_bits ?_)
          generalize en_v : (min n_a n_b) = n_v at hs_v ⊢
          generalize ef_v : (fun j => f_a j && f_b j) = f_v at hs_v ⊢
          replace fr := fr.trans f4 fun _ h => h.elim
          have z4 := f4.size
          replace hs_a := hs_a.fr0 f4
          replace hs_b := hs_b.fr0 f4
          replace hs_u := hs_u.fr0 f4
          replace bna := bna.fr f4 id
          replace bnb := bnb.fr f4 id
          replace bn110 := bn110.fr f4 id
          refine Chk1_iff.2 ⟨by rw [bnb.cell]; rfl, ?_⟩
          refine Chk1_iff.2 ⟨by rw [bnb.cell]; rfl, ?_⟩
          refine Chk1_iff.2 ⟨by rw [bna.cell]; rfl, ?_⟩
          refine Chk1_iff.2 ⟨by rw [bna.cell]; rfl, ?_⟩
          refine new_intro fun n115 w5 e5 bn115 f5 z5 => ?_
          replace fr := fr.trans f5 fun _ h => h.elim
          replace hs_a := hs_a.fr0 f5
          replace hs_b := hs_b.fr0 f5
          replace hs_u := hs_u.fr0 f5
          replace hs_v := hs_v.fr0 f5
          replace bna := bna.fr f5 id
          replace bnb := bnb.fr f5 id
          replace bn110 := bn110.fr f5 id
          refine Chk1_iff.2 ⟨by rw [bnb.cell]; rfl, ?_⟩
          refine Chk1_iff.2 ⟨by rw [bnb.cell]; rfl, ?_⟩
          refine Chk1_iff.2 ⟨by rw [bna.cell]; rfl, ?_⟩
          refine Chk1_iff.2 ⟨by rw [bna.cell]; rfl, ?_⟩
          refine Chk1_iff.2 ⟨by rw [bnb.cell]; rfl, ?_⟩
          refine Chk1_iff.2 ⟨by rw [bnb.cell]; rfl, ?_⟩
          refine Chk1_iff.2 ⟨by rw [bna.cell]; rfl, ?_⟩
          refine Chk1_iff.2 ⟨by rw [bna.cell]; rfl, ?_⟩
          refine store_intro bn115 (by simp) rfl fun w6 bn115 f6 z6 => ?_
          replace fr := fr.trans f6 fun x (e : x = n115) => .inr (by omega)
          replace hs_a := hs_a.st f6 (by omega)
          replace hs_b := hs_b.st f6 (by omega)
          replace hs_u := hs_u.st f6 (by omega)
          replace hs_v := hs_v.st f6 (by omega)
          replace bna := bna.fr f6 (show ¬ na = n115 by omega)
          replace bnb := bnb.fr f6 (show ¬ nb = n115 by omega)
          replace bn110 := bn110.fr f6 (show ¬ n110 = n115 by omega)
          refine store_intro bn115 (by simp) rfl fun w7 bn115 f7 z7 => ?_
          replace fr := fr.trans f7 fun x (e : x = n115) => .inr (by omega)
          replace hs_a := hs_a.st f7 (by omega)
          replace hs_b := hs_b.st f7 (by omega)
          replace hs_u := hs_u.st f7 (by omega)
          replace hs_v := hs_v.st f7 (by omega)
          replace bna := bna.fr f7 (show ¬ na = n115 by omega)
          replace bnb := bnb.fr f7 (show ¬ nb = n115 by omega)
          replace bn110 := bn110.fr f7 (show ¬ n110 = n115 by omega)
          refine Chk1_iff.2 ⟨by rw [bnb.cell]; rfl, ?_⟩
          refine Chk1_iff.2 ⟨by rw [bnb.cell]; rfl, ?_⟩
          refine Chk1_iff.2 ⟨by rw [bna.cell]; rfl, ?_⟩
          refine Chk1_iff.2 ⟨by rw [bna.cell]; rfl, ?_⟩
          refine store_intro bn110 (by simp) rfl fun w8 bn110 f8 z8 => ?_
          replace fr := fr.trans f8 fun x (e : x = n110) => .inr (by omega)
          replace hs_a := hs_a.st f8 (by omega)
          replace hs_b := hs_b.st f8 (by omega)
          replace hs_u := hs_u.st f8 (by omega)
          replace hs_v := hs_v.st f8 (by omega)
          replace bna := bna.fr f8 (show ¬ na = n110 by omega)
          replace bnb := bnb.fr f8 (show ¬ nb = n110 by omega)
          replace bn115 := bn115.fr f8 (show ¬ n115 = n110 by omega)
          refine store_intro bn110 (by simp) rfl fun w9 bn110 f9 z9 => ?_
          replace fr := fr.trans f9 fun x (e : x = n110) => .inr (by omega)
          replace hs_a := hs_a.st f9 (by omega)
          replace hs_b := hs_b.st f9 (by omega)
          replace hs_u := hs_u.st f9 (by omega)
          replace hs_v := hs_v.st f9 (by omega)
          replace bna := bna.fr f9 (show ¬ na = n110 by omega)
          replace bnb := bnb.fr f9 (show ¬ nb = n110 by omega)
          replace bn115 := bn115.fr f9 (show ¬ n115 = n110 by omega)
          exact F6_J2_spec hs_a hs_b hs_u hs_v bna bnb bn115 bn110 (by omega) (by omega) (by omega) (by omega) hna hnb (by omega) (by omega) (fun j => by rw [← ef_u]) (fun j => by rw [← ef_v]) fun w9 f9 => hk _ (fr.trans f9 fun _ h => h.elim)
        · refine new_intro fun n116 w4 e4 bn116 f4 z4 => ?_
          replace fr := fr.trans f4 fun _ h => h.elim
          replace hs_a := hs_a.fr0 f4
          replace hs_b := hs_b.fr0 f4
          replace hs_u := hs_u.fr0 f4
          replace bna := bna.fr f4 id
          replace bnb := bnb.fr f4 id
          replace bn110 := bn110.fr f4 id
          refine Chk1_iff.2 ⟨by rw [bnb.cell]; rfl, ?_⟩
          refine Chk1_iff.2 ⟨by rw [bnb.cell]; rfl, ?_⟩
          refine Chk1_iff.2 ⟨by rw [bna.cell]; rfl, ?_⟩
          refine Chk1_iff.2 ⟨by rw [bna.cell]; rfl, ?_⟩
          refine Chk1_iff.2 ⟨by rw [bnb.cell]; rfl, ?_⟩
          refine Chk1_iff.2 ⟨by rw [bnb.cell]; rfl, ?_⟩
          refine Chk1_iff.2 ⟨by rw [bna.cell]; rfl, ?_⟩
          refine Chk1_iff.2 ⟨by rw [bna.cell]; rfl, ?_⟩
          refine F20_call (C20  (by omega) hs_a (by omega) hs_b fun p_v c_v w5 hs_v f5 => back_bits ?_)
          generalize en_v : (min n_a n_b) = n_v at hs_v ⊢
          generalize ef_v : (fun j => f_a j && f_b j) = f_v at hs_v ⊢
          replace fr := fr.trans f5 fun _ h => h.elim
          have z5 := f5.size
          replace hs_a := hs_a.fr0 f5
          replace hs_b := hs_b.fr0 f5
          replace hs_u := hs_u.fr0 f5
          replace bna := bna.fr f5 id
          replace bnb := bnb.fr f5 id
          replace bn110 := bn110.fr f5 id
          replace bn116 := bn116.fr f5 id
          refine Chk1_iff.2 ⟨by rw [bnb.cell]; rfl, ?_⟩
          refine Chk1_iff.2 ⟨by rw [bnb.cell]; rfl, ?_⟩
          refine Chk1_iff.2 ⟨by rw [bna.cell]; rfl, ?_⟩
          refine Chk1_iff.2 ⟨by rw [bna.cell]; rfl, ?_⟩
          refine store_intro bn116 (by simp) rfl fun w6 bn116 f6 z6 => ?_
          replace fr := fr.trans f6 fun x (e : x = n116) => .inr (by omega)
          replace hs_a := hs_a.st f6 (by omega)
          replace hs_b := hs_b.st f6 (by omega)
          replace hs_u := hs_u.st f6 (by omega)
          replace hs_v := hs_v.st f6 (by omega)
          replace bna := bna.fr f6 (show ¬ na = n116 by omega)
          replace bnb := bnb.fr f6 (show ¬ nb = n116 by omega)
          replace bn110 := bn110.fr f6 (show ¬ n110 = n116 by omega)
          refine store_intro bn116 (by simp) rfl fun w7 bn116 f7 z7 => ?_
          replace fr := fr.trans f7 fun x (e : x = n116) => .inr (by omega)
          replace hs_a := hs_a.st f7 (by omega)
          replace hs_b := hs_b.st f7 (by omega)
          replace hs_u := hs_u.st f7 (by omega)
          replace hs_v := hs_v.st f7 (by omega)
          replace bna := bna.fr f7 (show ¬ na = n116 by omega)
          replace bnb := bnb.fr f7 (show ¬ nb = n116 by omega)
          replace bn110 := bn110.fr f7 (show ¬ n110 = n116 by omega)
          refine Chk1_iff.2 ⟨by rw [bnb.cell]; rfl, ?_⟩
          refine Chk1_iff.2 ⟨by rw [bnb.cell]; rfl, ?_⟩
          refine Chk1_iff.2 ⟨by rw [bna.cell]; rfl, ?_⟩
          refine Chk1_iff.2 ⟨by rw [bna.cell]; rfl, ?_⟩
          refine store_intro bn110 (by simp) rfl fun w8 bn110 f8 z8 => ?_
          replace fr := fr.trans f8 fun x (e : x = n110) => .inr (by omega)
          replace hs_a := hs_a.st f8 (by omega)
          replace hs_b := hs_b.st f8 (by omega)
          replace hs_u := hs_u.st f8 (by omega)
          replace hs_v := hs_v.st f8 (by omega)
          replace bna := bna.fr f8 (show ¬ na = n110 by omega)
          replace bnb := bnb.fr f8 (show ¬ nb = n110 by omega)
          replace bn116 := bn116.fr f8 (show ¬ n116 = n110 by omega)
          refine store_intro bn110 (by simp) rfl fun w9 bn110 f9 z9 => ?_
          replace fr := fr.trans f9 fun x (e : x = n110) => .inr (by omega)
          replace hs_a := hs_a.st f9 (by omega)
          replace hs_b := hs_b.st f9 (by omega)
          replace hs_u := hs_u.st f9 (by omega)
          replace hs_v := hs_v.st f9 (by omega)
          replace bna := bna.fr f9 (show ¬ na = n110 by omega)
          replace bnb := bnb.fr f9 (show ¬ nb = n110 by omega)
          replace bn116 := bn116.fr f9 (show ¬ n116 = n110 by omega)
          exact F6_J2_spec hs_a hs_b hs_u hs_v bna bnb bn116 bn110 (by omega) (by omega) (by omega) (by omega) hna hnb (by omega) (by omega) (fun j => by rw [← ef_u]) (fun j => by rw [← ef_v]) fun w9 f9 => hk _ (fr.trans f9 fun _ h => h.elim)
      · refine new_intro fun n119 w3 e3 bn119 f3 z3 => ?_
        replace fr := fr.trans f3 fun _ h => h.elim
        replace hs_a := hs_a.fr0 f3
        replace hs_b := hs_b.fr0 f3
        replace bna := bna.fr f3 id
        replace bnb := bnb.fr f3 id
        replace bn110 := bn110.fr f3 id
        refine Chk1_iff.2 ⟨by rw [bnb.cell]; rfl, ?_⟩
        refine Chk1_iff.2 ⟨by rw [bnb.cell]; rfl, ?_⟩
        refine Chk1_iff.2 ⟨by rw [bna.cell]; rfl, ?_⟩
        refine Chk1_iff.2 ⟨by rw [bna.cell]; rfl, ?_⟩
        refine Chk1_iff.2 ⟨by rw [bnb.cell]; rfl, ?_⟩
        refine Chk1_iff.2 ⟨by rw [bnb.cell]; rfl, ?_⟩
        refine Chk1_iff.2 ⟨by rw [bna.cell]; rfl, ?_⟩
        refine Chk1_iff.2 ⟨by rw [bna.cell]; rfl, ?_⟩
        refine F25_call (C25  (by omega) hs_a (by omega) hs_b fun p_u c_u w4 hs_u f4 => back_bits ?_)
        generalize en_u : (max n_a n_b) = n_u at hs_u ⊢
        generalize ef_u : (fun j => f_a j || f_b j) = f_u at hs_u ⊢
        replace fr := fr.trans f4 fun _ h => h.elim
        have z4 := f4.size
        replace hs_a := hs_a.fr0 f4
        replace hs_b := hs_b.fr0 f4
        replace bna := bna.fr f4 id
        replace bnb := bnb.fr f4 id
        replace bn110 := bn110.fr f4 id
        replace bn119 := bn119.fr f4 id
        refine Chk1_iff.2 ⟨by rw [bnb.cell]; rfl, ?_⟩
        refine Chk1_iff.2 ⟨by rw [bnb.cell]; rfl, ?_⟩
        refine Chk1_iff.2 ⟨by rw [bna.cell]; rfl, ?_⟩
        refine Chk1_iff.2 ⟨by rw [bna.cell]; rfl, ?_⟩
        refine F20_call (C20  (by omega) hs_a (by omega) hs_b fun p_v c_v w5 hs_v f5 => back_bits ?_)
        generalize en_v : (min n_a n_b) = n_v at hs_v ⊢
        generalize ef_v : (fun j => f_a j && f_b j) = f_v at hs_v ⊢
        replace fr := fr.trans f5 fun _ h => h.elim
        have z5 := f5.size
        replace hs_a := hs_a.fr0 f5
        replace hs_b := hs_b.fr0 f5
        replace hs_u := hs_u.fr0 f5
        replace bna := bna.fr f5 id
        replace bnb := bnb.fr f5 id
        replace bn110 := bn110.fr f5 id
        replace bn119 := bn119.fr f5 id
        refine Chk1_iff.2 ⟨by rw [bnb.cell]; rfl, ?_⟩
        refine Chk1_iff.2 ⟨by rw [bnb.cell]; rfl, ?_⟩
        refine Chk1_iff.2 ⟨by rw [bna.cell]; rfl, ?_⟩
        refine Chk1_iff.2 ⟨by rw [bna.cell]; rfl, ?_⟩
        refine store_intro bn119 (by simp) rfl fun w6 bn119 f6 z6 => ?_
        replace fr := fr.trans f6 fun x (e : x = n119) => .inr (by omega)
        replace hs_a := hs_a.st f6 (by omega)
        replace hs_b := hs_b.st f6 (by omega)
        replace hs_u := hs_u.st f6 (by omega)
        replace hs_v := hs_v.st f6 (by omega)
        replace bna := bna.fr f6 (show ¬ na = n119 by omega)
        replace bnb := bnb.fr f6 (show ¬ nb = n119 by omega)
        replace bn110 := bn110.fr f6 (show ¬ n110 = n119 by omega)
        refine store_intro bn119 (by simp) rfl fun w7 bn119 f7 z7 => ?_
        replace fr := fr.trans f7 fun x (e : x = n119) => .inr (by omega)
        replace hs_a := hs_a.st f7 (by omega)
        replace hs_b := hs_b.st f7 (by omega)
        replace hs_u := hs_u.st f7 (by omega)
        replace hs_v := hs_v.st f7 (by omega)
        replace bna := bna.fr f7 (show ¬ na = n119 by omega)
        replace bnb := bnb.fr f7 (show ¬ nb = n119 by omega)
        replace bn110 := bn110.fr f7 (show ¬ n110 = n119 by omega)
        refine Chk1_iff.2 ⟨by rw [bnb.cell]; rfl, ?_⟩
        refine Chk1_iff.2 ⟨by rw [bnb.cell]; rfl, ?_⟩
        refine Chk1_iff.2 ⟨by rw [bna.cell]; rfl, ?_⟩
        refine Chk1_iff.2 ⟨by rw [bna.cell]; rfl, ?_⟩
        refine store_intro bn110 (by simp) rfl fun w8 bn110 f8 z8 => ?_
        replace fr := fr.trans f8 fun x (e : x = n110) => .inr (by omega)
        replace hs_a := hs_a.st f8 (by omega)
        replace hs_b := hs_b.st f8 (by omega)
        replace hs_u := hs_u.st f8 (by omega)
        replace hs_v := hs_v.st f8 (by omega)
        replace bna := bna.fr f8 (show ¬ na = n110 by omega)
        replace bnb := bnb.fr f8 (show ¬ nb = n110 by omega)
        replace bn119 := bn119.fr f8 (show ¬ n119 = n110 by omega)
        refine store_intro bn110 (by simp) rfl fun w9 bn110 f9 z9 => ?_
        replace fr := fr.trans f9 fun x (e : x = n110) => .inr (by omega)
        replace hs_a := hs_a.st f9 (by omega)
        replace hs_b := hs_b.st f9 (by omega)
        replace hs_u := hs_u.st f9 (by omega)
        replace hs_v := hs_v.st f9 (by omega)
        replace bna := bna.fr f9 (show ¬ na = n110 by omega)
        replace bnb := bnb.fr f9 (show ¬ nb = n110 by omega)
        replace bn119 := bn119.fr f9 (show ¬ n119 = n110 by omega)
        exact F6_J2_spec hs_a hs_b hs_u hs_v bna bnb bn119 bn110 (by omega) (by omega) (by omega) (by omega) hna hnb (by omega) (by omega) (fun j => by rw [← ef_u]) (fun j => by rw [← ef_v]) fun w9 f9 => hk _ (fr.trans f9 fun _ h => h.elim)

theorem F6_spec {x l c y m d : Nat} {p q : Option Addr} {k : Value → W} {w : World} (hx : x < 18446744073709551616) (hr : Reads w p l) (hy : y < 18446744073709551616) (hq : Reads w q m)
    (hk : ∀ w', Fr (fun _ => False) w w' → k (.bool true) w') : F6 k x p l c y q m d w := by
  unfold F6
  refine new_intro fun n5 w1 e1 bn5 f1 z1 => ?_
  have fr := f1
  replace hr := hr.fr0 f1
  replace hq := hq.fr0 f1
  refine new_intro fun n6 w2 e2 bn6 f2 z2 => ?_
  replace fr := fr.trans f2 fun _ h => h.elim
  replace hr := hr.fr0 f2
  replace hq := hq.fr0 f2
  replace bn5 := bn5.fr f2 id
  refine load_int bn5 rfl ?_
  refine load_slice bn5 rfl ?_
  refine F12_call (F12_spec fun fit1 w3 f3 hfit1 => back_bool ?_)
  replace fr := fr.trans f3 fun _ h => h.elim
  have z3 := f3.size
  replace hr := hr.fr0 f3
  replace hq := hq.fr0 f3
  replace bn5 := bn5.fr f3 id
  replace bn6 := bn6.fr f3 id
  refine BIf_intro (fun hc => hk _ fr) (fun hc => ?_)
  have hl := hfit1 (by simpa using hc)
  refine load_int bn6 rfl ?_
  refine load_slice bn6 rfl ?_
  refine F12_call (F12_spec fun fit2 w4 f4 hfit2 => back_bool ?_)
  replace fr := fr.trans f4 fun _ h => h.elim
  have z4 := f4.size
  replace hr := hr.fr0 f4
  replace hq := hq.fr0 f4
  replace bn5 := bn5.fr f4 id
  replace bn6 := bn6.fr f4 id
  refine BIf_intro (fun hc => hk _ fr) (fun hc => ?_)
  have hm := hfit2 (by simpa using hc)
  refine drw_intro fun w5 f5 z5 => ?_
  replace fr := fr.trans f5 fun _ h => h.elim
  replace hr := hr.fr0 f5
  replace hq := hq.fr0 f5
  replace bn5 := bn5.fr f5 id
  replace bn6 := bn6.fr f5 id
  refine load_int bn5 rfl ?_
  refine load_slice bn5 rfl ?_
  refine load_int bn6 rfl ?_
  refine load_slice bn6 rfl ?_
  refine ⟨?_, ?_⟩
  · refine F13_call (C13 hx hr hl fun n_a f_a p_a c_a w6 hn_a hs_a f6 => back_bits ?_)
    replace fr := fr.trans f6 fun _ h => h.elim
    have z6 := f6.size
    replace hr := hr.fr0 f6
    replace hq := hq.fr0 f6
    replace bn5 := bn5.fr f6 id
    replace bn6 := bn6.fr f6 id
    refine Chk1_iff.2 ⟨by rw [bn6.cell]; rfl, ?_⟩
    refine Chk1_iff.2 ⟨by rw [bn6.cell]; rfl, ?_⟩
    refine ⟨?_, ?_⟩
    · refine F13_call (C13 hy hq hm fun n_b f_b p_b c_b w7 hn_b hs_b f7 => back_bits ?_)
      replace fr := fr.trans f7 fun _ h => h.elim
      have z7 := f7.size
      replace hq := hq.fr0 f7
      replace hs_a := hs_a.fr0 f7
      replace bn5 := bn5.fr f7 id
      replace bn6 := bn6.fr f7 id
      refine Chk1_iff.2 ⟨by rw [bn5.cell]; rfl, ?_⟩
      refine Chk1_iff.2 ⟨by rw [bn5.cell]; rfl, ?_⟩
      refine ⟨?_, ?_⟩
      · refine new_intro fun n21 w8 e8 bn21 f8 z8 => ?_
        replace fr := fr.trans f8 fun _ h => h.elim
        replace hs_a := hs_a.fr0 f8
        replace hs_b := hs_b.fr0 f8
        replace bn5 := bn5.fr f8 id
        replace bn6 := bn6.fr f8 id
        refine Chk1_iff.2 ⟨by rw [bn6.cell]; rfl, ?_⟩
        refine Chk1_iff.2 ⟨by rw [bn6.cell]; rfl, ?_⟩
        refine Chk1_iff.2 ⟨by rw [bn5.cell]; rfl, ?_⟩
        refine Chk1_iff.2 ⟨by rw [bn5.cell]; rfl, ?_⟩
        refine new_intro fun n22 w9 e9 bn22 f9 z9 => ?_
        replace fr := fr.trans f9 fun _ h => h.elim
        replace hs_a := hs_a.fr0 f9
        replace hs_b := hs_b.fr0 f9
        replace bn5 := bn5.fr f9 id
        replace bn6 := bn6.fr f9 id
        replace bn21 := bn21.fr f9 id
        refine Chk1_iff.2 ⟨by rw [bn6.cell]; rfl, ?_⟩
        refine Chk1_iff.2 ⟨by rw [bn6.cell]; rfl, ?_⟩
        refine Chk1_iff.2 ⟨by rw [bn5.cell]; rfl, ?_⟩
        refine Chk1_iff.2 ⟨by rw [bn5.cell]; rfl, ?_⟩
        refine store_intro bn21 (by simp) rfl fun w10 bn21 f10 z10 => ?_
        replace fr := fr.trans f10 fun x (e : x = n21) => .inr (by omega)
        replace hs_a := hs_a.st f10 (by omega)
        replace hs_b := hs_b.st f10 (by omega)
        replace bn5 := bn5.fr f10 (show ¬ n5 = n21 by omega)
        replace bn6 := bn6.fr f10 (show ¬ n6 = n21 by omega)
        replace bn22 := bn22.fr f10 (show ¬ n22 = n21 by omega)
        refine store_intro bn21 (by simp) rfl fun w11 bn21 f11 z11 => ?_
        replace fr := fr.trans f11 fun x (e : x = n21) => .inr (by omega)
        replace hs_a := hs_a.st f11 (by omega)
        replace hs_b := hs_b.st f11 (by omega)
        replace bn5 := bn5.fr f11 (show ¬ n5 = n21 by omega)
        replace bn6 := bn6.fr f11 (show ¬ n6 = n21 by omega)
        replace bn22 := bn22.fr f11 (show ¬ n22 = n21 by omega)
        refine Chk1_iff.2 ⟨by rw [bn6.cell]; rfl, ?_⟩
        refine Chk1_iff.2 ⟨by rw [bn6.cell]; rfl, ?_⟩
        refine store_intro bn22 (by simp) rfl fun w12 bn22 f12 z12 => ?_
        replace fr := fr.trans f12 fun x (e : x = n22) => .inr (by omega)
        replace hs_a := hs_a.st f12 (by omega)
        replace hs_b := hs_b.st f12 (by omega)
        replace bn5 := bn5.fr f12 (show ¬ n5 = n22 by omega)
        replace bn6 := bn6.fr f12 (show ¬ n6 = n22 by omega)
        replace bn21 := bn21.fr f12 (show ¬ n21 = n22 by omega)
        refine store_intro bn22 (by simp) rfl fun w13 bn22 f13 z13 => ?_
        replace fr := fr.trans f13 fun x (e : x = n22) => .inr (by omega)
        replace hs_a := hs_a.st f13 (by omega)
        replace hs_b := hs_b.st f13 (by omega)
        replace bn5 := bn5.fr f13 (show ¬ n5 = n22 by omega)
        replace bn6 := bn6.fr f13 (show ¬ n6 = n22 by omega)
        replace bn21 := bn21.fr f13 (show ¬ n21 = n22 by omega)
        exact F6_J1_spec hs_a hs_b bn21 bn22 (by omega) (by omega) (by omega) (by omega) fun w9 f9 => hk _ (fr.trans f9 fun _ h => h.elim)
      · refine new_intro fun n124 w8 e8 bn124 f8 z8 => ?_
        replace fr := fr.trans f8 fun _ h => h.elim
        replace hs_a := hs_a.fr0 f8
        replace hs_b := hs_b.fr0 f8
        replace bn5 := bn5.fr f8 id
        replace bn6 := bn6.fr f8 id
        refine Chk1_iff.2 ⟨by rw [bn6.cell]; rfl, ?_⟩
        refine Chk1_iff.2 ⟨by rw [bn6.cell]; rfl, ?_⟩
        refine Chk1_iff.2 ⟨by rw [bn5.cell]; rfl, ?_⟩
        refine Chk1_iff.2 ⟨by rw [bn5.cell]; rfl, ?_⟩
        refine new_intro fun n125 w9 e9 bn125 f9 z9 => ?_
        replace fr := fr.trans f9 fun _ h => h.elim
        replace hs_a := hs_a.fr0 f9
        replace hs_b := hs_b.fr0 f9
        replace bn5 := bn5.fr f9 id
        replace bn6 := bn6.fr f9 id
        replace bn124 := bn124.fr f9 id
        refine Chk1_iff.2 ⟨by rw [bn6.cell]; rfl, ?_⟩
        refine Chk1_iff.2 ⟨by rw [bn6.cell]; rfl, ?_⟩
        refine Chk1_iff.2 ⟨by rw [bn5.cell]; rfl, ?_⟩
        refine Chk1_iff.2 ⟨by rw [bn5.cell]; rfl, ?_⟩
        refine store_intro bn125 (by simp) rfl fun w10 bn125 f10 z10 => ?_
        replace fr := fr.trans f10 fun x (e : x = n125) => .inr (by omega)
        replace hs_a := hs_a.st f10 (by omega)
        replace hs_b := hs_b.st f10 (by omega)
        replace bn5 := bn5.fr f10 (show ¬ n5 = n125 by omega)
        replace bn6 := bn6.fr f10 (show ¬ n6 = n125 by omega)
        replace bn124 := bn124.fr f10 (show ¬ n124 = n125 by omega)
        refine store_intro bn125 (by simp) rfl fun w11 bn125 f11 z11 => ?_
        replace fr := fr.trans f11 fun x (e : x = n125) => .inr (by omega)
        replace hs_a := hs_a.st f11 (by omega)
        replace hs_b := hs_b.st f11 (by omega)
        replace bn5 := bn5.fr f11 (show ¬ n5 = n125 by omega)
        replace bn6 := bn6.fr f11 (show ¬ n6 = n125 by omega)
        replace bn124 := bn124.fr f11 (show ¬ n124 = n125 by omega)
        refine Chk1_iff.2 ⟨by rw [bn6.cell]; rfl, ?_⟩
        refine Chk1_iff.2 ⟨by rw [bn6.cell]; rfl, ?_⟩
        refine store_intro bn124 (by simp) rfl fun w12 bn124 f12 z12 => ?_
        replace fr := fr.trans f12 fun x (e : x = n124) => .inr (by omega)
        replace hs_a := hs_a.st f12 (by omega)
        replace hs_b := hs_b.st f12 (by omega)
        replace bn5 := bn5.fr f12 (show ¬ n5 = n124 by omega)
        replace bn6 := bn6.fr f12 (show ¬ n6 = n124 by omega)
        replace bn125 := bn125.fr f12 (show ¬ n125 = n124 by omega)
        refine store_intro bn124 (by simp) rfl fun w13 bn124 f13 z13 => ?_
        replace fr := fr.trans f13 fun x (e : x = n124) => .inr (by omega)
        replace hs_a := hs_a.st f13 (by omega)
        replace hs_b := hs_b.st f13 (by omega)
        replace bn5 := bn5.fr f13 (show ¬ n5 = n124 by omega)
        replace bn6 := bn6.fr f13 (show ¬ n6 = n124 by omega)
        replace bn125 := bn125.fr f13 (show ¬ n125 = n124 by omega)
        exact F6_J1_spec hs_a hs_b bn125 bn124 (by omega) (by omega) (by omega) (by omega) fun w9 f9 => hk _ (fr.trans f9 fun _ h => h.elim)
    · refine ⟨?_, ?_⟩
      · refine new_intro fun n126 w7 e7 bn126 f7 z7 => ?_
        replace fr := fr.trans f7 fun _ h => h.elim
        replace hq := hq.fr0 f7
        replace hs_a := hs_a.fr0 f7
        replace bn5 := bn5.fr f7 id
        replace bn6 := bn6.fr f7 id
        refine Chk1_iff.2 ⟨by rw [bn6.cell]; rfl, ?_⟩
        refine Chk1_iff.2 ⟨by rw [bn6.cell]; rfl, ?_⟩
        refine Chk1_iff.2 ⟨by rw [bn5.cell]; rfl, ?_⟩
        refine Chk1_iff.2 ⟨by rw [bn5.cell]; rfl, ?_⟩
        refine ⟨?_, ?_⟩
        · refine F13_call (C13 hy hq hm fun n_b f_b p_b c_b w8 hn_b hs_b f8 => back_bits ?_)
          replace fr := fr.trans f8 fun _ h => h.elim
          have z8 := f8.size
          replace hq := hq.fr0 f8
          replace hs_a := hs_a.fr0 f8
          replace bn5 := bn5.fr f8 id
          replace bn6 := bn6.fr f8 id
          replace bn126 := bn126.fr f8 id
          refine Chk1_iff.2 ⟨by rw [bn5.cell]; rfl, ?_⟩
          refine Chk1_iff.2 ⟨by rw [bn5.cell]; rfl, ?_⟩
          refine new_intro fun n129 w9 e9 bn129 f9 z9 => ?_
          replace fr := fr.trans f9 fun _ h => h.elim
          replace hs_a := hs_a.fr0 f9
          replace hs_b := hs_b.fr0 f9
          replace bn5 := bn5.fr f9 id
          replace bn6 := bn6.fr f9 id
          replace bn126 := bn126.fr f9 id
          refine Chk1_iff.2 ⟨by rw [bn6.cell]; rfl, ?_⟩
          refine Chk1_iff.2 ⟨by rw [bn6.cell]; rfl, ?_⟩
          refine Chk1_iff.2 ⟨by rw [bn5.cell]; rfl, ?_⟩
          refine Chk1_iff.2 ⟨by rw [bn5.cell]; rfl, ?_⟩
          refine store_intro bn126 (by simp) rfl fun w10 bn126 f10 z10 => ?_
          replace fr := fr.trans f10 fun x (e : x = n126) => .inr (by omega)
          replace hs_a := hs_a.st f10 (by omega)
          replace hs_b := hs_b.st f10 (by omega)
          replace bn5 := bn5.fr f10 (show ¬ n5 = n126 by omega)
          replace bn6 := bn6.fr f10 (show ¬ n6 = n126 by omega)
          replace bn129 := bn129.fr f10 (show ¬ n129 = n126 by omega)
          refine store_intro bn126 (by simp) rfl fun w11 bn126 f11 z11 => ?_
          replace fr := fr.trans f11 fun x (e : x = n126) => .inr (by omega)
          replace hs_a := hs_a.st f11 (by omega)
          replace hs_b := hs_b.st f11 (by omega)
          replace bn5 := bn5.fr f11 (show ¬ n5 = n126 by omega)
          replace bn6 := bn6.fr f11 (show ¬ n6 = n126 by omega)
          replace bn129 := bn129.fr f11 (show ¬ n129 = n126 by omega)
          refine Chk1_iff.2 ⟨by rw [bn6.cell]; rfl, ?_⟩
          refine Chk1_iff.2 ⟨by rw [bn6.cell]; rfl, ?_⟩
          refine store_intro bn129 (by simp) rfl fun w12 bn129 f12 z12 => ?_
          replace fr := fr.trans f12 fun x (e : x = n129) => .inr (by omega)
          replace hs_a := hs_a.st f12 (by omega)
          replace hs_b := hs_b.st f12 (by omega)
          replace bn5 := bn5.fr f12 (show ¬ n5 = n129 by omega)
          replace bn6 := bn6.fr f12 (show ¬ n6 = n129 by omega)
          replace bn126 := bn126.fr f12 (show ¬ n126 = n129 by omega)
          refine store_intro bn129 (by simp) rfl fun w13 bn129 f13 z13 => ?_
          replace fr := fr.trans f13 fun x (e : x = n129) => .inr (by omega)
          replace hs_a := hs_a.st f13 (by omega)
          replace hs_b := hs_b.st f13 (by omega)
          replace bn5 := bn5.fr f13 (show ¬ n5 = n129 by omega)
          replace bn6 := bn6.fr f13 (show ¬ n6 = n129 by omega)
          replace bn126 := bn126.fr f13 (show ¬ n126 = n129 by omega)
          exact F6_J1_spec hs_a hs_b bn126 bn129 (by omega) (by omega) (by omega) (by omega) fun w9 f9 => hk _ (fr.trans f9 fun _ h => h.elim)
        · refine new_intro fun n130 w8 e8 bn130 f8 z8 => ?_
          replace fr := fr.trans f8 fun _ h => h.elim
          replace hq := hq.fr0 f8
          replace hs_a := hs_a.fr0 f8
          replace bn5 := bn5.fr f8 id
          replace bn6 := bn6.fr f8 id
          replace bn126 := bn126.fr f8 id
          refine Chk1_iff.2 ⟨by rw [bn6.cell]; rfl, ?_⟩
          refine Chk1_iff.2 ⟨by rw [bn6.cell]; rfl, ?_⟩
          refine Chk1_iff.2 ⟨by rw [bn5.cell]; rfl, ?_⟩
          refine Chk1_iff.2 ⟨by rw [bn5.cell]; rfl, ?_⟩
          refine F13_call (C13 hy hq hm fun n_b f_b p_b c_b w9 hn_b hs_b f9 => back_bits ?_)
          replace fr := fr.trans f9 fun _ h => h.elim
          have z9 := f9.size
          replace hq := hq.fr0 f9
          replace hs_a := hs_a.fr0 f9
          replace bn5 := bn5.fr f9 id
          replace bn6 := bn6.fr f9 id
          replace bn126 := bn126.fr f9 id
          replace bn130 := bn130.fr f9 id
          refine Chk1_iff.2 ⟨by rw [bn5.cell]; rfl, ?_⟩
          refine Chk1_iff.2 ⟨by rw [bn5.cell]; rfl, ?_⟩
          refine store_intro bn126 (by simp) rfl fun w10 bn126 f10 z10 => ?_
          replace fr := fr.trans f10 fun x (e : x = n126) => .inr (by omega)
          replace hs_a := hs_a.st f10 (by omega)
          replace hs_b := hs_b.st f10 (by omega)
          replace bn5 := bn5.fr f10 (show ¬ n5 = n126 by omega)
          replace bn6 := bn6.fr f10 (show ¬ n6 = n126 by omega)
          replace bn130 := bn130.fr f10 (show ¬ n130 = n126 by omega)
          refine store_intro bn126 (by simp) rfl fun w11 bn126 f11 z11 => ?_
          replace fr := fr.trans f11 fun x (e : x = n126) => .inr (by omega)
          replace hs_a := hs_a.st f11 (by omega)
          replace hs_b := hs_b.st f11 (by omega)
          replace bn5 := bn5.fr f11 (show ¬ n5 = n126 by omega)
          replace bn6 := bn6.fr f11 (show ¬ n6 = n126 by omega)
          replace bn130 := bn130.fr f11 (show ¬ n130 = n126 by omega)
          refine Chk1_iff.2 ⟨by rw [bn6.cell]; rfl, ?_⟩
          refine Chk1_iff.2 ⟨by rw [bn6.cell]; rfl, ?_⟩
          refine store_intro bn130 (by simp) rfl fun w12 bn130 f12 z12 => ?_
          replace fr := fr.trans f12 fun x (e : x = n130) => .inr (by omega)
          replace hs_a := hs_a.st f12 (by omega)
          replace hs_b := hs_b.st f12 (by omega)
          replace bn5 := bn5.fr f12 (show ¬ n5 = n130 by omega)
          replace bn6 := bn6.fr f12 (show ¬ n6 = n130 by omega)
          replace bn126 := bn126.fr f12 (show ¬ n126 = n130 by omega)
          refine store_intro bn130 (by simp) rfl fun w13 bn130 f13 z13 => ?_
          replace fr := fr.trans f13 fun x (e : x = n130) => .inr (by omega)
          replace hs_a := hs_a.st f13 (by omega)
          replace hs_b := hs_b.st f13 (by omega)
          replace bn5 := bn5.fr f13 (show ¬ n5 = n130 by omega)
          replace bn6 := bn6.fr f13 (show ¬ n6 = n130 by omega)
          replace bn126 := bn126.fr f13 (show ¬ n126 = n130 by omega)
          exact F6_J1_spec hs_a hs_b bn126 bn130 (by omega) (by omega) (by omega) (by omega) fun w9 f9 => hk _ (fr.trans f9 fun _ h => h.elim)
      · refine new_intro fun n133 w7 e7 bn133 f7 z7 => ?_
        replace fr := fr.trans f7 fun _ h => h.elim
        replace hq := hq.fr0 f7
        replace hs_a := hs_a.fr0 f7
        replace bn5 := bn5.fr f7 id
        replace bn6 := bn6.fr f7 id
        refine Chk1_iff.2 ⟨by rw [bn6.cell]; rfl, ?_⟩
        refine Chk1_iff.2 ⟨by rw [bn6.cell]; rfl, ?_⟩
        refine Chk1_iff.2 ⟨by rw [bn5.cell]; rfl, ?_⟩
        refine Chk1_iff.2 ⟨by rw [bn5.cell]; rfl, ?_⟩
        refine ⟨?_, ?_⟩
        · refine F13_call (C13 hy hq hm fun n_b f_b p_b c_b w8 hn_b hs_b f8 => back_bits ?_)
          replace fr := fr.trans f8 fun _ h => h.elim
          have z8 := f8.size
          replace hq := hq.fr0 f8
          replace hs_a := hs_a.fr0 f8
          replace bn5 := bn5.fr f8 id
          replace bn6 := bn6.fr f8 id
          replace bn133 := bn133.fr f8 id
          refine Chk1_iff.2 ⟨by rw [bn5.cell]; rfl, ?_⟩
          refine Chk1_iff.2 ⟨by rw [bn5.cell]; rfl, ?_⟩
          refine new_intro fun n136 w9 e9 bn136 f9 z9 => ?_
          replace fr := fr.trans f9 fun _ h => h.elim
          replace hs_a := hs_a.fr0 f9
          replace hs_b := hs_b.fr0 f9
          replace bn5 := bn5.fr f9 id
          replace bn6 := bn6.fr f9 id
          replace bn133 := bn133.fr f9 id
          refine Chk1_iff.2 ⟨by rw [bn6.cell]; rfl, ?_⟩
          refine Chk1_iff.2 ⟨by rw [bn6.cell]; rfl, ?_⟩
          refine Chk1_iff.2 ⟨by rw [bn5.cell]; rfl, ?_⟩
          refine Chk1_iff.2 ⟨by rw [bn5.cell]; rfl, ?_⟩
          refine store_intro bn136 (by simp) rfl fun w10 bn136 f10 z10 => ?_
          replace fr := fr.trans f10 fun x (e : x = n136) => .inr (by omega)
          replace hs_a := hs_a.st f10 (by omega)
          replace hs_b := hs_b.st f10 (by omega)
          replace bn5 := bn5.fr f10 (show ¬ n5 = n136 by omega)
          replace bn6 := bn6.fr f10 (show ¬ n6 = n136 by omega)
          replace bn133 := bn133.fr f10 (show ¬ n133 = n136 by omega)
          refine store_intro bn136 (by simp) rfl fun w11 bn136 f11 z11 => ?_
          replace fr := fr.trans f11 fun x (e : x = n136) => .inr (by omega)
          replace hs_a := hs_a.st f11 (by omega)
          replace hs_b := hs_b.st f11 (by omega)
          replace bn5 := bn5.fr f11 (show ¬ n5 = n136 by omega)
          replace bn6 := bn6.fr f11 (show ¬ n6 = n136 by omega)
          replace bn133 := bn133.fr f11 (show ¬ n133 = n136 by omega)
          refine Chk1_iff.2 ⟨by rw [bn6.cell]; rfl, ?_⟩
          refine Chk1_iff.2 ⟨by rw [bn6.cell]; rfl, ?_⟩
          refine store_intro bn133 (by simp) rfl fun w12 bn133 f12 z12 => ?_
          replace fr := fr.trans f12 fun x (e : x = n133) => .inr (by omega)
          replace hs_a := hs_a.st f12 (by omega)
          replace hs_b := hs_b.st f12 (by omega)
          replace bn5 := bn5.fr f12 (show ¬ n5 = n133 by omega)
          replace bn6 := bn6.fr f12 (show ¬ n6 = n133 by omega)
          replace bn136 := bn136.fr f12 (show ¬ n136 = n133 by omega)
          refine store_intro bn133 (by simp) rfl fun w13 bn133 f13 z13 => ?_
          replace fr := fr.trans f13 fun x (e : x = n133) => .inr (by omega)
          replace hs_a := hs_a.st f13 (by omega)
          replace hs_b := hs_b.st f13 (by omega)
          replace bn5 := bn5.fr f13 (show ¬ n5 = n133 by omega)
          replace bn6 := bn6.fr f13 (show ¬ n6 = n133 by omega)
          replace bn136 := bn136.fr f13 (show ¬ n136 = n133 by omega)
          exact F6_J1_spec hs_a hs_b bn136 bn133 (by omega) (by omega) (by omega) (by omega) fun w9 f9 => hk _ (fr.trans f9 fun _ h => h.elim)
        · refine new_intro fun n137 w8 e8 bn137 f8 z8 => ?_
          replace fr := fr.trans f8 fun _ h => h.elim
          replace hq := hq.fr0 f8
          replace hs_a := hs_a.fr0 f8
          replace bn5 := bn5.fr f8 id
          replace bn6 := bn6.fr f8 id
          replace bn133 := bn133.fr f8 id
          refine Chk1_iff.2 ⟨by rw [bn6.cell]; rfl, ?_⟩
          refine Chk1_iff.2 ⟨by rw [bn6.cell]; rfl, ?_⟩
          refine Chk1_iff.2 ⟨by rw [bn5.cell]; rfl, ?_⟩
          refine Chk1_iff.2 ⟨by rw [bn5.cell]; rfl, ?_⟩
          refine F13_call (C13 hy hq hm fun n_b f_b p_b c_b w9 hn_b hs_b f9 => back_bits ?_)
          replace fr := fr.trans f9 fun _ h => h.elim
          have z9 := f9.size
          replace hq := hq.fr0 f9
          replace hs_a := hs_a.fr0 f9
          replace bn5 := bn5.fr f9 id
          replace bn6 := bn6.fr f9 id
          replace bn133 := bn133.fr f9 id
          replace bn137 := bn137.fr f9 id
          refine Chk1_iff.2 ⟨by rw [bn5.cell]; rfl, ?_⟩
          refine Chk1_iff.2 ⟨by rw [bn5.cell]; rfl, ?_⟩
          refine store_intro bn137 (by simp) rfl fun w10 bn137 f10 z10 => ?_
          replace fr := fr.trans f10 fun x (e : x = n137) => .inr (by omega)
          replace hs_a := hs_a.st f10 (by omega)
          replace hs_b := hs_b.st f10 (by omega)
          replace bn5 := bn5.fr f10 (show ¬ n5 = n137 by omega)
          replace bn6 := bn6.fr f10 (show ¬ n6 = n137 by omega)
          replace bn133 := bn133.fr f10 (show ¬ n133 = n137 by omega)
          refine store_intro bn137 (by simp) rfl fun w11 bn137 f11 z11 => ?_
          replace fr := fr.trans f11 fun x (e : x = n137) => .inr (by omega)
          replace hs_a := hs_a.st f11 (by omega)
          replace hs_b := hs_b.st f11 (by omega)
          replace bn5 := bn5.fr f11 (show ¬ n5 = n137 by omega)
          replace bn6 := bn6.fr f11 (show ¬ n6 = n137 by omega)
          replace bn133 := bn133.fr f11 (show ¬ n133 = n137 by omega)
          refine Chk1_iff.2 ⟨by rw [bn6.cell]; rfl, ?_⟩
          refine Chk1_iff.2 ⟨by rw [bn6.cell]; rfl, ?_⟩
          refine store_intro bn133 (by simp) rfl fun w12 bn133 f12 z12 => ?_
          replace fr := fr.trans f12 fun x (e : x = n133) => .inr (by omega)
          replace hs_a := hs_a.st f12 (by omega)
          replace hs_b := hs_b.st f12 (by omega)
          replace bn5 := bn5.fr f12 (show ¬ n5 = n133 by omega)
          replace bn6 := bn6.fr f12 (show ¬ n6 = n133 by omega)
          replace bn137 := bn137.fr f12 (show ¬ n137 = n133 by omega)
          refine store_intro bn133 (by simp) rfl fun w13 bn133 f13 z13 => ?_
          replace fr := fr.trans f13 fun x (e : x = n133) => .inr (by omega)
          replace hs_a := hs_a.st f13 (by omega)
          replace hs_b := hs_b.st f13 (by omega)
          replace bn5 := bn5.fr f13 (show ¬ n5 = n133 by omega)
          replace bn6 := bn6.fr f13 (show ¬ n6 = n133 by omega)
          replace bn137 := bn137.fr f13 (show ¬ n137 = n133 by omega)
          exact F6_J1_spec hs_a hs_b bn137 bn133 (by omega) (by omega) (by omega) (by omega) fun w9 f9 => hk _ (fr.trans f9 fun _ h => h.elim)
  · refine ⟨?_, ?_⟩
    · refine new_intro fun n140 w6 e6 bn140 f6 z6 => ?_
      replace fr := fr.trans f6 fun _ h => h.elim
      replace hr := hr.fr0 f6
      replace hq := hq.fr0 f6
      replace bn5 := bn5.fr f6 id
      replace bn6 := bn6.fr f6 id
      refine Chk1_iff.2 ⟨by rw [bn6.cell]; rfl, ?_⟩
      refine Chk1_iff.2 ⟨by rw [bn6.cell]; rfl, ?_⟩
      refine Chk1_iff.2 ⟨by rw [bn5.cell]; rfl, ?_⟩
      refine Chk1_iff.2 ⟨by rw [bn5.cell]; rfl, ?_⟩
      refine ⟨?_, ?_⟩
      · refine F13_call (C13 hx hr hl fun n_a f_a p_a c_a w7 hn_a hs_a f7 => back_bits ?_)
        replace fr := fr.trans f7 fun _ h => h.elim
        have z7 := f7.size
        replace hr := hr.fr0 f7
        replace hq := hq.fr0 f7
        replace bn5 := bn5.fr f7 id
        replace bn6 := bn6.fr f7 id
        replace bn140 := bn140.fr f7 id
        refine Chk1_iff.2 ⟨by rw [bn6.cell]; rfl, ?_⟩
        refine Chk1_iff.2 ⟨by rw [bn6.cell]; rfl, ?_⟩
        refine ⟨?_, ?_⟩
        · refine F13_call (C13 hy hq hm fun n_b f_b p_b c_b w8 hn_b hs_b f8 => back_bits ?_)
          replace fr := fr.trans f8 fun _ h => h.elim
          have z8 := f8.size
          replace hq := hq.fr0 f8
          replace hs_a := hs_a.fr0 f8
          replace bn5 := bn5.fr f8 id
          replace bn6 := bn6.fr f8 id
          replace bn140 := bn140.fr f8 id
          refine Chk1_iff.2 ⟨by rw [bn5.cell]; rfl, ?_⟩
          refine Chk1_iff.2 ⟨by rw [bn5.cell]; rfl, ?_⟩
          refine new_intro fun n145 w9 e9 bn145 f9 z9 => ?_
          replace fr := fr.trans f9 fun _ h => h.elim
          replace hs_a := hs_a.fr0 f9
          replace hs_b := hs_b.fr0 f9
          replace bn5 := bn5.fr f9 id
          replace bn6 := bn6.fr f9 id
          replace bn140 := bn140.fr f9 id
          refine Chk1_iff.2 ⟨by rw [bn6.cell]; rfl, ?_⟩
          refine Chk1_iff.2 ⟨by rw [bn6.cell]; rfl, ?_⟩
          refine Chk1_iff.2 ⟨by rw [bn5.cell]; rfl, ?_⟩
          refine Chk1_iff.2 ⟨by rw [bn5.cell]; rfl, ?_⟩
          refine store_intro bn140 (by simp) rfl fun w10 bn140 f10 z10 => ?_
          replace fr := fr.trans f10 fun x (e : x = n140) => .inr (by omega)
          replace hs_a := hs_a.st f10 (by omega)
          replace hs_b := hs_b.st f10 (by omega)
          replace bn5 := bn5.fr f10 (show ¬ n5 = n140 by omega)
          replace bn6 := bn6.fr f10 (show ¬ n6 = n140 by omega)
          replace bn145 := bn145.fr f10 (show ¬ n145 = n140 by omega)
          refine store_intro bn140 (by simp) rfl fun w11 bn140 f11 z11 => ?_
          replace fr := fr.trans f11 fun x (e : x = n140) => .inr (by omega)
          replace hs_a := hs_a.st f11 (by omega)
          replace hs_b := hs_b.st f11 (by omega)
          replace bn5 := bn5.fr f11 (show ¬ n5 = n140 by omega)
          replace bn6 := bn6.fr f11 (show ¬ n6 = n140 by omega)
          replace bn145 := bn145.fr f11 (show ¬ n145 = n140 by omega)
          refine Chk1_iff.2 ⟨by rw [bn6.cell]; rfl, ?_⟩
          refine Chk1_iff.2 ⟨by rw [bn6.cell]; rfl, ?_⟩
          refine store_intro bn145 (by simp) rfl fun w12 bn145 f12 z12 => ?_
          replace fr := fr.trans f12 fun x (e : x = n145) => .inr (by omega)
          replace hs_a := hs_a.st f12 (by omega)
          replace hs_b := hs_b.st f12 (by omega)
          replace bn5 := bn5.fr f12 (show ¬ n5 = n145 by omega)
          replace bn6 := bn6.fr f12 (show ¬ n6 = n145 by omega)
          replace bn140 := bn140.fr f12 (show ¬ n140 = n145 by omega)
          refine store_intro bn145 (by simp) rfl fun w13 bn145 f13 z13 => ?_
          replace fr := fr.trans f13 fun x (e : x = n145) => .inr (by omega)
          replace hs_a := hs_a.st f13 (by omega)
          replace hs_b := hs_b.st f13 (by omega)
          replace bn5 := bn5.fr f13 (show ¬ n5 = n145 by omega)
          replace bn6 := bn6.fr f13 (show ¬ n6 = n145 by omega)
          replace bn140 := bn140.fr f13 (show ¬ n140 = n145 by omega)
          exact F6_J1_spec hs_a hs_b bn140 bn145 (by omega) (by omega) (by omega) (by omega) fun w9 f9 => hk _ (fr.trans f9 fun _ h => h.elim)
        · refine new_intro fun n146 w8 e8 bn146 f8 z8 => ?_
          replace fr := fr.trans f8 fun _ h => h.elim
          replace hq := hq.fr0 f8
          replace hs_a := hs_a.fr0 f8
          replace bn5 := bn5.fr f8 id
          replace bn6 := bn6.fr f8 id
          replace bn140 := bn140.fr f8 id
          refine Chk1_iff.2 ⟨by rw [bn6.cell]; rfl, ?_⟩
          refine Chk1_iff.2 ⟨by rw [bn6.cell]; rfl, ?_⟩
          refine Chk1_iff.2 ⟨by rw [bn5.cell]; rfl, ?_⟩
          refine Chk1_iff.2 ⟨by rw [bn5.cell]; rfl, ?_⟩
          refine F13_call (C13 hy hq hm fun n_b f_b p_b c_b w9 hn_b hs_b f9 => back_bits ?_)
          replace fr := fr.trans f9 fun _ h => h.elim
          have z9 := f9.size
          replace hq := hq.fr0 f9
          replace hs_a := hs_a.fr0 f9
          replace bn5 := bn5.fr f9 id
          replace bn6 := bn6.fr f9 id
          replace bn140 := bn140.fr f9 id
          replace bn146 := bn146.fr f9 id
          refine Chk1_iff.2 ⟨by rw [bn5.cell]; rfl, ?_⟩
          refine Chk1_iff.2 ⟨by rw [bn5.cell]; rfl, ?_⟩
          refine store_intro bn140 (by simp) rfl fun w10 bn140 f10 z10 => ?_
          replace fr := fr.trans f10 fun x (e : x = n140) => .inr (by omega)
          replace hs_a := hs_a.st f10 (by omega)
          replace hs_b := hs_b.st f10 (by omega)
          replace bn5 := bn5.fr f10 (show ¬ n5 = n140 by omega)
          replace bn6 := bn6.fr f10 (show ¬ n6 = n140 by omega)
          replace bn146 := bn146.fr f10 (show ¬ n146 = n140 by omega)
          refine store_intro bn140 (by simp) rfl fun w11 bn140 f11 z11 => ?_
          replace fr := fr.trans f11 fun x (e : x = n140) => .inr (by omega)
          replace hs_a := hs_a.st f11 (by omega)
          replace hs_b := hs_b.st f11 (by omega)
          replace bn5 := bn5.fr f11 (show ¬ n5 = n140 by omega)
          replace bn6 := bn6.fr f11 (show ¬ n6 = n140 by omega)
          replace bn146 := bn146.fr f11 (show ¬ n146 = n140 by omega)
          refine Chk1_iff.2 ⟨by rw [bn6.cell]; rfl, ?_⟩
          refine Chk1_iff.2 ⟨by rw [bn6.cell]; rfl, ?_⟩
          refine store_intro bn146 (by simp) rfl fun w12 bn146 f12 z12 => ?_
          replace fr := fr.trans f12 fun x (e : x = n146) => .inr (by omega)
          replace hs_a := hs_a.st f12 (by omega)
          replace hs_b := hs_b.st f12 (by omega)
          replace bn5 := bn5.fr f12 (show ¬ n5 = n146 by omega)
          replace bn6 := bn6.fr f12 (show ¬ n6 = n146 by omega)
          replace bn140 := bn140.fr f12 (show ¬ n140 = n146 by omega)
          refine store_intro bn146 (by simp) rfl fun w13 bn146 f13 z13 => ?_
          replace fr := fr.trans f13 fun x (e : x = n146) => .inr (by omega)
          replace hs_a := hs_a.st f13 (by omega)
          replace hs_b := hs_b.st f13 (by omega)
          replace bn5 := bn5.fr f13 (show ¬ n5 = n146 by omega)
          replace bn6 := bn6.fr f13 (show ¬ n6 = n146 by omega)
          replace bn140 := bn140.fr f13 (show ¬ n140 = n146 by omega)
          exact F6_J1_spec hs_a hs_b bn140 bn146 (by omega) (by omega) (by omega) (by omega) fun w9 f9 => hk _ (fr.trans f9 fun _ h => h.elim)
      · refine new_intro fun n149 w7 e7 bn149 f7 z7 => ?_
        replace fr := fr.trans f7 fun _ h => h.elim
        replace hr := hr.fr0 f7
        replace hq := hq.fr0 f7
        replace bn5 := bn5.fr f7 id
        replace bn6 := bn6.fr f7 id
        replace bn140 := bn140.fr f7 id
        refine Chk1_iff.2 ⟨by rw [bn6.cell]; rfl, ?_⟩
        refine Chk1_iff.2 ⟨by rw [bn6.cell]; rfl, ?_⟩
        refine Chk1_iff.2 ⟨by rw [bn5.cell]; rfl, ?_⟩
        refine Chk1_iff.2 ⟨by rw [bn5.cell]; rfl, ?_⟩
        refine F13_call (C13 hx hr hl fun n_a f_a p_a c_a w8 hn_a hs_a f8 => back_bits ?_)
        replace fr := fr.trans f8 fun _ h => h.elim
        have z8 := f8.size
        replace hr := hr.fr0 f8
        replace hq := hq.fr0 f8
        replace bn5 := bn5.fr f8 id
        replace bn6 := bn6.fr f8 id
        replace bn140 := bn140.fr f8 id
        replace bn149 := bn149.fr f8 id
        refine Chk1_iff.2 ⟨by rw [bn6.cell]; rfl, ?_⟩
        refine Chk1_iff.2 ⟨by rw [bn6.cell]; rfl, ?_⟩
        refine F13_call (C13 hy hq hm fun n_b f_b p_b c_b w9 hn_b hs_b f9 => back_bits ?_)
        replace fr := fr.trans f9 fun _ h => h.elim
        have z9 := f9.size
        replace hq := hq.fr0 f9
        replace hs_a := hs_a.fr0 f9
        replace bn5 := bn5.fr f9 id
        replace bn6 := bn6.fr f9 id
        replace bn140 := bn140.fr f9 id
        replace bn149 := bn149.fr f9 id
        refine Chk1_iff.2 ⟨by rw [bn5.cell]; rfl, ?_⟩
        refine Chk1_iff.2 ⟨by rw [bn5.cell]; rfl, ?_⟩
        refine store_intro bn140 (by simp) rfl fun w10 bn140 f10 z10 => ?_
        replace fr := fr.trans f10 fun x (e : x = n140) => .inr (by omega)
        replace hs_a := hs_a.st f10 (by omega)
        replace hs_b := hs_b.st f10 (by omega)
        replace bn5 := bn5.fr f10 (show ¬ n5 = n140 by omega)
        replace bn6 := bn6.fr f10 (show ¬ n6 = n140 by omega)
        replace bn149 := bn149.fr f10 (show ¬ n149 = n140 by omega)
        refine store_intro bn140 (by simp) rfl fun w11 bn140 f11 z11 => ?_
        replace fr := fr.trans f11 fun x (e : x = n140) => .inr (by omega)
        replace hs_a := hs_a.st f11 (by omega)
        replace hs_b := hs_b.st f11 (by omega)
        replace bn5 := bn5.fr f11 (show ¬ n5 = n140 by omega)
        replace bn6 := bn6.fr f11 (show ¬ n6 = n140 by omega)
        replace bn149 := bn149.fr f11 (show ¬ n149 = n140 by omega)
        refine Chk1_iff.2 ⟨by rw [bn6.cell]; rfl, ?_⟩
        refine Chk1_iff.2 ⟨by rw [bn6.cell]; rfl, ?_⟩
        refine store_intro bn149 (by simp) rfl fun w12 bn149 f12 z12 => ?_
        replace fr := fr.trans f12 fun x (e : x = n149) => .inr (by omega)
        replace hs_a := hs_a.st f12 (by omega)
        replace hs_b := hs_b.st f12 (by omega)
        replace bn5 := bn5.fr f12 (show ¬ n5 = n149 by omega)
        replace bn6 := bn6.fr f12 (show ¬ n6 = n149 by omega)
        replace bn140 := bn140.fr f12 (show ¬ n140 = n149 by omega)
        refine store_intro bn149 (by simp) rfl fun w13 bn149 f13 z13 => ?_
        replace fr := fr.trans f13 fun x (e : x = n149) => .inr (by omega)
        replace hs_a := hs_a.st f13 (by omega)
        replace hs_b := hs_b.st f13 (by omega)
        replace bn5 := bn5.fr f13 (show ¬ n5 = n149 by omega)
        replace bn6 := bn6.fr f13 (show ¬ n6 = n149 by omega)
        replace bn140 := bn140.fr f13 (show ¬ n140 = n149 by omega)
        exact F6_J1_spec hs_a hs_b bn140 bn149 (by omega) (by omega) (by omega) (by omega) fun w9 f9 => hk _ (fr.trans f9 fun _ h => h.elim)
    · refine new_intro fun n154 w6 e6 bn154 f6 z6 => ?_
      replace fr := fr.trans f6 fun _ h => h.elim
      replace hr := hr.fr0 f6
      replace hq := hq.fr0 f6
      replace bn5 := bn5.fr f6 id
      replace bn6 := bn6.fr f6 id
      refine Chk1_iff.2 ⟨by rw [bn6.cell]; rfl, ?_⟩
      refine Chk1_iff.2 ⟨by rw [bn6.cell]; rfl, ?_⟩
      refine Chk1_iff.2 ⟨by rw [bn5.cell]; rfl, ?_⟩
      refine Chk1_iff.2 ⟨by rw [bn5.cell]; rfl, ?_⟩
      refine ⟨?_, ?_⟩
      · refine F13_call (C13 hx hr hl fun n_a f_a p_a c_a w7 hn_a hs_a f7 => back_bits ?_)
        replace fr := fr.trans f7 fun _ h => h.elim
        have z7 := f7.size
        replace hr := hr.fr0 f7
        replace hq := hq.fr0 f7
        replace bn5 := bn5.fr f7 id
        replace bn6 := bn6.fr f7 id
        replace bn154 := bn154.fr f7 id
        refine Chk1_iff.2 ⟨by rw [bn6.cell]; rfl, ?_⟩
        refine Chk1_iff.2 ⟨by rw [bn6.cell]; rfl, ?_⟩
        refine ⟨?_, ?_⟩
        · refine F13_call (C13 hy hq hm fun n_b f_b p_b c_b w8 hn_b hs_b f8 => back_bits ?_)
          replace fr := fr.trans f8 fun _ h => h.elim
          have z8 := f8.size
          replace hq := hq.fr0 f8
          replace hs_a := hs_a.fr0 f8
          replace bn5 := bn5.fr f8 id
          replace bn6 := bn6.fr f8 id
          replace bn154 := bn154.fr f8 id
          refine Chk1_iff.2 ⟨by rw [bn5.cell]; rfl, ?_⟩
          refine Chk1_iff.2 ⟨by rw [bn5.cell]; rfl, ?_⟩
          refine new_intro fun n159 w9 e9 bn159 f9 z9 => ?_
          replace fr := fr.trans f9 fun _ h => h.elim
          replace hs_a := hs_a.fr0 f9
          replace hs_b := hs_b.fr0 f9
          replace bn5 := bn5.fr f9 id
          replace bn6 := bn6.fr f9 id
          replace bn154 := bn154.fr f9 id
          refine Chk1_iff.2 ⟨by rw [bn6.cell]; rfl, ?_⟩
          refine Chk1_iff.2 ⟨by rw [bn6.cell]; rfl, ?_⟩
          refine Chk1_iff.2 ⟨by rw [bn5.cell]; rfl, ?_⟩
          refine Chk1_iff.2 ⟨by rw [bn5.cell]; rfl, ?_⟩
          refine store_intro bn159 (by simp) rfl fun w10 bn159 f10 z10 => ?_
          replace fr := fr.trans f10 fun x (e : x = n159) => .inr (by omega)
          replace hs_a := hs_a.st f10 (by omega)
          replace hs_b := hs_b.st f10 (by omega)
          replace bn5 := bn5.fr f10 (show ¬ n5 = n159 by omega)
          replace bn6 := bn6.fr f10 (show ¬ n6 = n159 by omega)
          replace bn154 := bn154.fr f10 (show ¬ n154 = n159 by omega)
          refine store_intro bn159 (by simp) rfl fun w11 bn159 f11 z11 => ?_
          replace fr := fr.trans f11 fun x (e : x = n159) => .inr (by omega)
          replace hs_a := hs_a.st f11 (by omega)
          replace hs_b := hs_b.st f11 (by omega)
          replace bn5 := bn5.fr f11 (show ¬ n5 = n159 by omega)
          replace bn6 := bn6.fr f11 (show ¬ n6 = n159 by omega)
          replace bn154 := bn154.fr f11 (show ¬ n154 = n159 by omega)
          refine Chk1_iff.2 ⟨by rw [bn6.cell]; rfl, ?_⟩
          refine Chk1_iff.2 ⟨by rw [bn6.cell]; rfl, ?_⟩
          refine store_intro bn154 (by simp) rfl fun w12 bn154 f12 z12 => ?_
          replace fr := fr.trans f12 fun x (e : x = n154) => .inr (by omega)
          replace hs_a := hs_a.st f12 (by omega)
          replace hs_b := hs_b.st f12 (by omega)
          replace bn5 := bn5.fr f12 (show ¬ n5 = n154 by omega)
          replace bn6 := bn6.fr f12 (show ¬ n6 = n154 by omega)
          replace bn159 := bn159.fr f12 (show ¬ n159 = n154 by omega)
          refine store_intro bn154 (by simp) rfl fun w13 bn154 f13 z13 => ?_
          replace fr := fr.trans f13 fun x (e : x = n154) => .inr (by omega)
          replace hs_a := hs_a.st f13 (by omega)
          replace hs_b := hs_b.st f13 (by omega)
          replace bn5 := bn5.fr f13 (show ¬ n5 = n154 by omega)
          replace bn6 := bn6.fr f13 (show ¬ n6 = n154 by omega)
          replace bn159 := bn159.fr f13 (show ¬ n159 = n154 by omega)
          exact F6_J1_spec hs_a hs_b bn159 bn154 (by omega) (by omega) (by omega) (by omega) fun w9 f9 => hk _ (fr.trans f9 fun _ h => h.elim)
        · refine new_intro fun n160 w8 e8 bn160 f8 z8 => ?_
          replace fr := fr.trans f8 fun _ h => h.elim
          replace hq := hq.fr0 f8
          replace hs_a := hs_a.fr0 f8
          replace bn5 := bn5.fr f8 id
          replace bn6 := bn6.fr f8 id
          replace bn154 := bn154.fr f8 id
          refine Chk1_iff.2 ⟨by rw [bn6.cell]; rfl, ?_⟩
          refine Chk1_iff.2 ⟨by rw [bn6.cell]; rfl, ?_⟩
          refine Chk1_iff.2 ⟨by rw [bn5.cell]; rfl, ?_⟩
          refine Chk1_iff.2 ⟨by rw [bn5.cell]; rfl, ?_⟩
          refine F13_call (C13 hy hq hm fun n_b f_b p_b c_b w9 hn_b hs_b f9 => back_bits ?_)
          replace fr := fr.trans f9 fun _ h => h.elim
          have z9 := f9.size
          replace hq := hq.fr0 f9
          replace hs_a := hs_a.fr0 f9
          replace bn5 := bn5.fr f9 id
          replace bn6 := bn6.fr f9 id
          replace bn154 := bn154.fr f9 id
          replace bn160 := bn160.fr f9 id
          refine Chk1_iff.2 ⟨by rw [bn5.cell]; rfl, ?_⟩
          refine Chk1_iff.2 ⟨by rw [bn5.cell]; rfl, ?_⟩
          refine store_intro bn160 (by simp) rfl fun w10 bn160 f10 z10 => ?_
          replace fr := fr.trans f10 fun x (e : x = n160) => .inr (by omega)
          replace hs_a := hs_a.st f10 (by omega)
          replace hs_b := hs_b.st f10 (by omega)
          replace bn5 := bn5.fr f10 (show ¬ n5 = n160 by omega)
          replace bn6 := bn6.fr f10 (show ¬ n6 = n160 by omega)
          replace bn154 := bn154.fr f10 (show ¬ n154 = n160 by omega)
          refine store_intro bn160 (by simp) rfl fun w11 bn160 f11 z11 => ?_
          replace fr := fr.trans f11 fun x (e : x = n160) => .inr (by omega)
          replace hs_a := hs_a.st f11 (by omega)
          replace hs_b := hs_b.st f11 (by omega)
          replace bn5 := bn5.fr f11 (show ¬ n5 = n160 by omega)
          replace bn6 := bn6.fr f11 (show ¬ n6 = n160 by omega)
          replace bn154 := bn154.fr f11 (show ¬ n154 = n160 by omega)
          refine Chk1_iff.2 ⟨by rw [bn6.cell]; rfl, ?_⟩
          refine Chk1_iff.2 ⟨by rw [bn6.cell]; rfl, ?_⟩
          refine store_intro bn154 (by simp) rfl fun w12 bn154 f12 z12 => ?_
          replace fr := fr.trans f12 fun x (e : x = n154) => .inr (by omega)
          replace hs_a := hs_a.st f12 (by omega)
          replace hs_b := hs_b.st f12 (by omega)
          replace bn5 := bn5.fr f12 (show ¬ n5 = n154 by omega)
          replace bn6 := bn6.fr f12 (show ¬ n6 = n154 by omega)
          replace bn160 := bn160.fr f12 (show ¬ n160 = n154 by omega)
          refine store_intro bn154 (by simp) rfl fun w13 bn154 f13 z13 => ?_
          replace fr := fr.trans f13 fun x (e : x = n154) => .inr (by omega)
          replace hs_a := hs_a.st f13 (by omega)
          replace hs_b := hs_b.st f13 (by omega)
          replace bn5 := bn5.fr f13 (show ¬ n5 = n154 by omega)
          replace bn6 := bn6.fr f13 (show ¬ n6 = n154 by omega)
          replace bn160 := bn160.fr f13 (show ¬ n160 = n154 by omega)
          exact F6_J1_spec hs_a hs_b bn160 bn154 (by omega) (by omega) (by omega) (by omega) fun w9 f9 => hk _ (fr.trans f9 fun _ h => h.elim)
      · refine new_intro fun n163 w7 e7 bn163 f7 z7 => ?_
        replace fr := fr.trans f7 fun _ h => h.elim
        replace hr := hr.fr0 f7
        replace hq := hq.fr0 f7
        replace bn5 := bn5.fr f7 id
        replace bn6 := bn6.fr f7 id
        replace bn154 := bn154.fr f7 id
        refine Chk1_iff.2 ⟨by rw [bn6.cell]; rfl, ?_⟩
        refine Chk1_iff.2 ⟨by rw [bn6.cell]; rfl, ?_⟩
        refine Chk1_iff.2 ⟨by rw [bn5.cell]; rfl, ?_⟩
        refine Chk1_iff.2 ⟨by rw [bn5.cell]; rfl, ?_⟩
        refine F13_call (C13 hx hr hl fun n_a f_a p_a c_a w8 hn_a hs_a f8 => back_bits ?_)
        replace fr := fr.trans f8 fun _ h => h.elim
        have z8 := f8.size
        replace hr := hr.fr0 f8
        replace hq := hq.fr0 f8
        replace bn5 := bn5.fr f8 id
        replace bn6 := bn6.fr f8 id
        replace bn154 := bn154.fr f8 id
        replace bn163 := bn163.fr f8 id
        refine Chk1_iff.2 ⟨by rw [bn6.cell]; rfl, ?_⟩
        refine Chk1_iff.2 ⟨by rw [bn6.cell]; rfl, ?_⟩
        refine F13_call (C13 hy hq hm fun n_b f_b p_b c_b w9 hn_b hs_b f9 => back_bits ?_)
        replace fr := fr.trans f9 fun _ h => h.elim
        have z9 := f9.size
        replace hq := hq.fr0 f9
        replace hs_a := hs_a.fr0 f9
        replace bn5 := bn5.fr f9 id
        replace bn6 := bn6.fr f9 id
        replace bn154 := bn154.fr f9 id
        replace bn163 := bn163.fr f9 id
        refine Chk1_iff.2 ⟨by rw [bn5.cell]; rfl, ?_⟩
        refine Chk1_iff.2 ⟨by rw [bn5.cell]; rfl, ?_⟩
        refine store_intro bn163 (by simp) rfl fun w10 bn163 f10 z10 => ?_
        replace fr := fr.trans f10 fun x (e : x = n163) => .inr (by omega)
        replace hs_a := hs_a.st f10 (by omega)
        replace hs_b := hs_b.st f10 (by omega)
        replace bn5 := bn5.fr f10 (show ¬ n5 = n163 by omega)
        replace bn6 := bn6.fr f10 (show ¬ n6 = n163 by omega)
        replace bn154 := bn154.fr f10 (show ¬ n154 = n163 by omega)
        refine store_intro bn163 (by simp) rfl fun w11 bn163 f11 z11 => ?_
        replace fr := fr.trans f11 fun x (e : x = n163) => .inr (by omega)
        replace hs_a := hs_a.st f11 (by omega)
        replace hs_b := hs_b.st f11 (by omega)
        replace bn5 := bn5.fr f11 (show ¬ n5 = n163 by omega)
        replace bn6 := bn6.fr f11 (show ¬ n6 = n163 by omega)
        replace bn154 := bn154.fr f11 (show ¬ n154 = n163 by omega)
        refine Chk1_iff.2 ⟨by rw [bn6.cell]; rfl, ?_⟩
        refine Chk1_iff.2 ⟨by rw [bn6.cell]; rfl, ?_⟩
        refine store_intro bn154 (by simp) rfl fun w12 bn154 f12 z12 => ?_
        replace fr := fr.trans f12 fun x (e : x = n154) => .inr (by omega)
        replace hs_a := hs_a.st f12 (by omega)
        replace hs_b := hs_b.st f12 (by omega)
        replace bn5 := bn5.fr f12 (show ¬ n5 = n154 by omega)
        replace bn6 := bn6.fr f12 (show ¬ n6 = n154 by omega)
        replace bn163 := bn163.fr f12 (show ¬ n163 = n154 by omega)
        refine store_intro bn154 (by simp) rfl fun w13 bn154 f13 z13 => ?_
        replace fr := fr.trans f13 fun x (e : x = n154) => .inr (by omega)
        replace hs_a := hs_a.st f13 (by omega)
        replace hs_b := hs_b.st f13 (by omega)
        replace bn5 := bn5.fr f13 (show ¬ n5 = n154 by omega)
        replace bn6 := bn6.fr f13 (show ¬ n6 = n154 by omega)
        replace bn163 := bn163.fr f13 (show ¬ n163 = n154 by omega)
        exact F6_J1_spec hs_a hs_b bn163 bn154 (by omega) (by omega) (by omega) (by omega) fun w9 f9 => hk _ (fr.trans f9 fun _ h => h.elim)
end Go.Proofs.Ytopdlfecfgimpaa.E
