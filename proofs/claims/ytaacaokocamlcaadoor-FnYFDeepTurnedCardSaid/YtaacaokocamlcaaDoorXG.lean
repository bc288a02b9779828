/-
  A key's path made: a turn of the loop, from the new node on.
-/
import Derived.Test.YtaacaokocamlcaaDoorXB
namespace Go.Proofs.YtaacaokocamlcaaDoor.E
open Go
set_option linter.unusedSimpArgs false
set_option linter.unusedVariables false
set_option maxRecDepth 100000
set_option maxHeartbeats 8000000

section
variable {w w1 : World} {a ls B : Nat} {mm : Nat → Nat} {N c : Nd} {en : Nat → Value} {mn mx mnb mxb : Option Nat} {num : Nat}
/-- J7: the new node hung in and told to its layer. -/
theorem F42_J7_spec {k : Value → W} {again : Option Addr → Value → Int → Option Addr → Option Addr → Option Addr → Option Addr → Int → W} {pv sv root : Option Addr} {key i0 x0 i y : Nat} {e v : Value} {ys : Nat → Nat} {ci : Nd} {pi : Nat → Option Nat} {ei : Nat → Value}
    (Ta : Tabs w) (Cr : Cre w w1 a ls B mm N c en mnb mxb num key i0 x0 e ys ci pi ei i) (T : T0 B N c mn mx) (hlow : ∀ b, XS a B mm N b → 2 ≤ b) (hkey : key < 2 ^ B) (hi0 : i0 ≤ i) (hiB : i < B) (hx0 : N i0 (pre B i0 key) = some x0) (hn : N (i0 + 1) (pre B (i0 + 1) key) = none)
    {w2 : World} (hy : Blk w2 y 91 [v, pO none, pO none, pO (some (ys i))]) (hyw : w1.heap.size = y) (hv : v = if i + 1 = B then e else .nilIface)
    (hd : Blk w2 a 82 [.slice (some ⟨ls, 0, none⟩) B B, pO (N 0 0), .int .u64 ((num + (if i + 1 = B then 1 else 0) : Nat) : Int), .int .u8 (B : Nat), .int .u8 (64 - B : Nat), pO mnb, pO mxb]) (f2 : Fr (fun b => b = a) w1 w2)
    (hk : ∀ ys' ci' pi' ei' w', Cre w w' a ls B mm N c en mnb mxb num key i0 x0 e ys' ci' pi' ei' (i + 1) → ys' (i + 1) = y → again (some ⟨a, 0, none⟩) e (key : Nat) (some ⟨y, 0, none⟩) pv sv root ((i + 1 : Nat) : Int) w') :
    F42_J7 k again (some ⟨a, 0, none⟩) e (key : Nat) (some ⟨ys i, 0, none⟩) pv sv root ((bit B i key : Nat) : Int) (i : Nat) (some ⟨y, 0, none⟩) w2 := by
  have hB := Cr.la.b64
  have hbl := bit_lt B i key
  have hk64 : key < 18446744073709551616 := Nat.lt_of_lt_of_le hkey (Nat.pow_le_pow_right (n := 2) (by decide) hB)
  have h0 : N i0 (pre B i0 key) = some (ys i0) := by rw [Cr.m.y0]; exact hx0
  have hcur := gri_cur (k := key) (i := i) hi0 h0
  have hnn : N (i + 1) (pre B (i + 1) key) = none := gri_none (ys := ys) T hi0 hiB hn
  have hold : ∀ {j q x}, gri B N key i0 ys i j q = some x → x < w1.heap.size := fun h => (Cr.nd.nd h).lt
  have hfresh : ∀ {j q}, gri B N key i0 ys i j q ≠ some y := fun h => by have := hold h; omega
  have hsub : ∀ {j q x}, N j q = some x → gri B N key i0 ys i j q = some x := fun {j q x} h => by
    unfold gri
    rw [if_neg]
    · exact h
    · rintro ⟨h1, h2, rfl⟩
      obtain ⟨z, hz⟩ := T.up (i := i0 + 1) rfl (by omega) (by omega) h
      rw [hn] at hz; cases hz
  have na : ∀ {j q x}, gri B N key i0 ys i j q = some x → x ≠ a := fun h e => by
    have := Cr.nd.nd h
    rw [e] at this
    exact absurd (this.unique Cr.hd).1 (by decide)
  have hz2 : Blk w2 (ys i) 91 _ := (Cr.nd.nd hcur).fr f2 (na hcur)
  unfold F42_J7
  simp only [NN_mk, Int.toNat_natCast]
  refine ⟨by omega, ?_⟩
  rw [add_mk, add_mk, Nat.zero_add, Nat.add_comm 1]
  refine store_intro (i := bit B i key + 1) hz2 (by simp; omega) rfl fun w3 b3 f3 z3 => ?_
  refine drw_intro fun w4 f4 z4 => ?_
  have f34 : Fr (fun b => b = ys i) w2 w4 := f3.trans f4 fun _ h => h.elim
  have hda : ¬ a = ys i := fun e => na hcur e.symm
  have hd4 := hd.fr f34 hda
  refine load_slice (i := 0) hd4 rfl ?_
  simp only [NN_mk, Int.toNat_natCast]
  have lane : ¬ ls = a := fun e => by
    have := Cr.la.ly
    rw [e] at this
    exact absurd (this.unique Cr.hd).1 (by decide)
  have lanz : ¬ ls = ys i := fun e => by
    have := Cr.la.ly
    rw [e] at this
    exact absurd (this.unique (Cr.nd.nd hcur)).1 (by decide)
  have la2 : Lay w2 ls B mm (gri B N key i0 ys i) := Cr.la.fr f2 lane fun j hj => by
    obtain ⟨l, hM, _⟩ := Cr.la.mp j hj
    exact fun e => (hM.not_blk Cr.hd) e
  have la4 : Lay w4 ls B mm (gri B N key i0 ys i) := la2.fr f34 lanz fun j hj => by
    obtain ⟨l, hM, _⟩ := Cr.la.mp j hj
    exact fun e => (hM.not_blk (Cr.nd.nd hcur)) e
  refine ⟨by omega, LoadT_map.2 ⟨_, by rw [add_mk, Nat.zero_add]; exact la4.map hiB, ?_⟩⟩
  refine load_int (i := 4) hd4 rfl ?_
  have e1 : addI .u8 ((64 - B : Nat) : Int) ((i : Nat) : Int) = ((64 - B + i : Nat) : Int) := by
    show IntKind.wrap .u8 _ = _
    rw [wrap_u8 (by omega) (by omega)]; omega
  rw [e1]
  simp only [Int.toNat_natCast]
  have hw2 := Ta.sz
  have ysz : 2 ≤ ys i := by
    rcases Nat.lt_or_ge i0 i with h | h
    · have := Cr.yn i h (Nat.le_refl _); omega
    · have : i = i0 := by omega
      subst this
      exact hlow _ (.inr (.inr ⟨_, _, h0⟩))
  have ha2 : 2 ≤ a := hlow _ (.inl rfl)
  have f14 : Fr (fun b => b = a ∨ b = ys i) w1 w4 := (f2.mono (S' := fun b => b = a ∨ b = ys i) fun _ h => .inl (.inl h)).trans f34 fun b h => .inl (.inr h)
  have Ta4 : Tabs w4 := Cr.ta.fr f14 (by omega) (by omega)
  refine ⟨by omega, LoadT_int.2 ⟨_, by rw [add_mk, Nat.zero_add]; exact Ta4.ms (64 - B + i) (by omega), ?_⟩⟩
  have e2 : andI .u64 ((key : Nat) : Int) ((18446744073709551616 - 2 ^ (63 - (64 - B + i)) : Nat) : Int) = ((mk B (i + 1) (pre B (i + 1) key) : Nat) : Int) := by
    have h1 : 0 < 2 ^ (63 - (64 - B + i)) := Nat.pow_pos (by decide)
    rw [show 63 - (64 - B + i) = B - (i + 1) by omega] at h1 ⊢
    rw [andI_nat hk64 (by omega), mk_pre hB (by omega) hk64]
  rw [e2]
  obtain ⟨l, hM, hg⟩ := la4.mp i hiB
  refine mapUpdate_intro (kv := kU) und88 keyU hM fun w5 hM5 f5 z5 => ?_
  have ne5 : ∀ {b t us}, Blk w4 b t us → ¬ b = mm i := fun hb e => (hM.not_blk hb) e.symm
  have hy4 : Blk w4 y 91 _ := hy.fr f34 fun e => hfresh (e ▸ hcur)
  have b4 := b3.fr f4 id
  have b5 := b4.fr f5 (ne5 b4)
  have hgs := fun {j q x} => gri_step (B := B) (N := N) (k := key) (i0 := i0) (i := i) (y := y) (j := j) (q := q) (x := x) (ys := ys) hi0 hnn
  have hgn : gri B N key i0 ys i (i + 1) (pre B (i + 1) key) = none := by
    unfold gri; rw [if_neg (by omega)]; exact hnn
  have hinj : ∀ {j q}, gri B N key i0 ys i j q = some (ys i) → j = i := fun {j q} h => by
    unfold gri at h
    split at h
    · rename_i h1
      rcases Nat.lt_or_ge i0 i with h3 | h3
      · exact Cr.m.yi h1.1 h1.2.1 h3 (Nat.le_refl _) (Option.some.inj h)
      · omega
    · rcases Nat.lt_or_ge i0 i with h3 | h3
      · exact absurd h (Cr.m.fr h3 (Nat.le_refl _))
      · have : i = i0 := by omega
        subst this
        exact (T.inj h h0).1
  have ysm : ∀ j, i0 < j → j ≤ i → ys j < w1.heap.size := fun j h1 h2 => hold (j := j) (q := pre B j key) (by unfold gri; rw [if_pos ⟨h1, h2, rfl⟩])
  have f15 : Fr (fun b => b = a ∨ b = ys i ∨ b = mm i) w1 w5 := (f14.mono (S' := fun b => b = a ∨ b = ys i ∨ b = mm i) fun _ h => .inl (h.elim .inl fun h => .inr (.inl h))).trans f5 fun b h => .inl (.inr (.inr h))
  have sS : ∀ {b t us}, Blk w1 b t us → t = 107 → ¬ (b = a ∨ b = ys i ∨ b = mm i) := fun {b t us} hb ht h => by
    rcases h with rfl | rfl | rfl
    · have := (hb.unique Cr.hd).1; rw [ht] at this; exact absurd this (by decide)
    · have := (hb.unique (Cr.nd.nd hcur)).1; rw [ht] at this; exact absurd this (by decide)
    · obtain ⟨l1, hM1, _⟩ := Cr.la.mp i hiB
      exact hM1.not_blk hb rfl
  have kp5 : KP w5 e key := Cr.kp.fr f15 fun b us hb => sS hb rfl
  unfold F42_J8
  simp only [NN_mk, Int.toNat_natCast]
  refine ⟨by omega, ?_⟩
  have hside : Blk w5 (ys i) 91 [ei (ys i), pO (sput ci (ys i) (bit B i key) (some y) (ys i) 0), pO (sput ci (ys i) (bit B i key) (some y) (ys i) 1), pO (pi (ys i))] := by
    have hb : bit B i key = 0 ∨ bit B i key = 1 := by omega
    rcases hb with hb | hb
    · rw [hb] at b5 ⊢
      rw [sput_same, sput_ne _ _ _ _ (.inr (by decide))]; exact b5
    · rw [hb] at b5 ⊢
      rw [sput_same, sput_ne _ _ _ _ (.inr (by decide))]; exact b5
  refine load_side (c := fun s => sput ci (ys i) (bit B i key) (some y) (ys i) s) hside hbl ?_
  rw [sput_same]
  have e3 : addI .u8 ((i : Nat) : Int) 1 = ((i + 1 : Nat) : Int) := by
    show IntKind.wrap .u8 _ = _
    rw [wrap_u8 (by omega) (by omega)]; rfl
  rw [e3]
  refine hk (fun j => if j = i + 1 then y else ys j) _ _ _ w5 ⟨Cr.m.step T hi0 hx0 (fun p q h => hfresh (hsub h)) fun j h1 h2 h3 => by have := ysm j h1 h2; omega, hd4.fr f5 (ne5 hd4), Lay.more la4 hiB hM hg (q := pre B (i + 1) key) (y := y) hgs hgn hM5 f5, Nds.more Cr.nd hi0 hiB h0 hnn hfresh hinj (hy4.fr f5 (ne5 hy4)) b5 (fun h hne => ?_) (gri_clo T (by omega) h0) (fun h => (Cr.nd.eB h).fr f15 fun b us hb => sS hb rfl) ?_, fun j p x h => ?_, fun h => ?_, kp5, Cr.ta.fr f15 ?_ ?_, Cr.fr.trans f15 fun b h => ?_, fun j h1 h2 => ?_⟩ (if_pos rfl)
  · refine (Cr.nd.nd h).fr f15 fun h1 => ?_
    rcases h1 with e | e | e
    · exact na h e
    · exact hne e
    · obtain ⟨l1, hM1, _⟩ := Cr.la.mp i hiB
      exact hM1.not_blk (Cr.nd.nd h) e.symm
  · rw [hv]
    by_cases e : i + 1 = B
    · rw [if_pos e, if_pos e]; exact kp5
    · rw [if_neg e, if_neg e]
  · show (if x = y then v else ei x) = en x
    rw [if_neg (fun e => hfresh (e ▸ hsub h))]
    exact Cr.eo j p x h
  · show (if (if B = i + 1 then y else ys B) = y then v else ei (if B = i + 1 then y else ys B)) = e
    rw [if_pos h.symm, if_pos rfl, hv, if_pos h]
  · have hml : 2 ≤ mm i := hlow _ (.inr (.inl ⟨i, hiB, rfl⟩)); omega
  · have hml : 2 ≤ mm i := hlow _ (.inr (.inl ⟨i, hiB, rfl⟩)); omega
  · rcases h with e | e | e
    · exact .inl (.inl e)
    · rcases Nat.lt_or_ge i0 i with h3 | h3
      · exact .inr (by rw [e]; exact Cr.yn i h3 (Nat.le_refl _))
      · have : i = i0 := by omega
        subst this
        exact .inl (.inr (.inr ⟨_, _, e ▸ h0⟩))
    · exact .inl (.inr (.inl ⟨i, hiB, e⟩))
  · show w.heap.size ≤ (if j = i + 1 then y else ys j)
    split
    · have := Cr.fr.size; omega
    · exact Cr.yn j h1 (by omega)
end
end Go.Proofs.YtaacaokocamlcaaDoor.E

namespace Go.Proofs.YtaacaokocamlcaaDoor.E
open Go
set_option linter.unusedSimpArgs false
set_option linter.unusedVariables false
set_option maxRecDepth 100000
set_option maxHeartbeats 8000000

section
variable {w : World} {a ls B : Nat} {mm : Nat → Nat} {N c : Nd} {pa : Nat → Option Nat} {en : Nat → Value} {mn mx mnb mxb : Option Nat} {num : Nat}
theorem oA_oneC (o : Option Nat) : oneC (pO o) = true := rfl
/-- J6: a new node. -/
theorem F42_J6_spec {k : Value → W} {again : Option Addr → Value → Int → Option Addr → Option Addr → Option Addr → Option Addr → Int → W} {w1 : World} {pv sv root : Option Addr} {key i0 x0 i : Nat} {e : Value} {ys : Nat → Nat} {ci : Nd} {pi : Nat → Option Nat} {ei : Nat → Value}
    (Ta : Tabs w) (Cr : Cre w w1 a ls B mm N c en mnb mxb num key i0 x0 e ys ci pi ei i) (T : T0 B N c mn mx) (hlow : ∀ b, XS a B mm N b → 2 ≤ b) (hkey : key < 2 ^ B) (hi0 : i0 ≤ i) (hiB : i < B) (hx0 : N i0 (pre B i0 key) = some x0) (hn : N (i0 + 1) (pre B (i0 + 1) key) = none) (hnum : num < 4294967296)
    (hk : ∀ ys' ci' pi' ei' w', Cre w w' a ls B mm N c en mnb mxb num key i0 x0 e ys' ci' pi' ei' (i + 1) → again (some ⟨a, 0, none⟩) e (key : Nat) (some ⟨ys' (i + 1), 0, none⟩) pv sv root ((i + 1 : Nat) : Int) w') :
    F42_J6 k again (some ⟨a, 0, none⟩) e (key : Nat) (some ⟨ys i, 0, none⟩) pv sv root ((bit B i key : Nat) : Int) (i : Nat) true w1 := by
  have hB := Cr.la.b64
  have hB0 := T.b0
  have ha := Cr.hd.lt
  unfold F42_J6
  simp only [BIf_true, NN_mk]
  refine load_int (i := 3) Cr.hd rfl ?_
  have e1 : subI .u8 ((B : Nat) : Int) 1 = ((B - 1 : Nat) : Int) := by
    show IntKind.wrap .u8 _ = _
    rw [wrap_u8 (by omega) (by omega)]; omega
  rw [e1]
  by_cases hl : i + 1 = B
  · rw [decide_eq_false (by omega)]
    simp only [BIf_false]
    refine F48_call (F48_spec (o := some (ys i)) (v := e) Cr.kp.one fun y w2 ey by2 f2 z2 => back_p ?_)
    try simp only [NN_mk]
    have hd2 := Cr.hd.fr f2 id
    refine load_int (i := 2) hd2 rfl ?_
    refine store_intro (i := 2) hd2 (by simp) rfl fun w3 b3 f3 z3 => ?_
    have e2 : addI .u64 ((num + (if i = B then 1 else 0) : Nat) : Int) 1 = ((num + (if i + 1 = B then 1 else 0) : Nat) : Int) := by
      rw [if_neg (by omega), if_pos hl, addI_u64 (by omega) (by omega)]; omega
    rw [e2] at b3
    refine F42_J7_spec Ta Cr T hlow hkey hi0 hiB hx0 hn (by2.fr f3 (show ¬ y = a by omega)) ey.symm (by rw [if_pos hl]) b3 ((f2.mono (S' := fun b => b = a) fun _ h => h.elim).trans f3 fun b h => .inl h) fun ys' ci' pi' ei' w' C h => ?_
    rw [← h]; exact hk ys' ci' pi' ei' w' C
  · rw [decide_eq_true (by omega)]
    simp only [BIf_true]
    refine F48_call (F48_spec (o := some (ys i)) (v := .nilIface) rfl fun y w2 ey by2 f2 z2 => back_p ?_)
    have hd2 := Cr.hd.fr f2 id
    rw [if_neg (by omega)] at hd2
    refine F42_J7_spec Ta Cr T hlow hkey hi0 hiB hx0 hn by2 ey.symm (by rw [if_neg hl]) (by rw [if_neg hl]; exact hd2) (f2.mono fun _ h => h.elim) fun ys' ci' pi' ei' w' C h => ?_
    rw [← h]; exact hk ys' ci' pi' ei' w' C
end
end Go.Proofs.YtaacaokocamlcaaDoor.E

namespace Go.Proofs.YtaacaokocamlcaaDoor.E
open Go
set_option linter.unusedSimpArgs false
set_option linter.unusedVariables false
set_option maxRecDepth 100000
set_option maxHeartbeats 8000000

section
variable {w : World} {a ls B : Nat} {mm : Nat → Nat} {N c : Nd} {pa : Nat → Option Nat} {en : Nat → Value} {mn mx : Option Nat} {num : Nat}
theorem F42_loop {k : Value → W} {pv sv root : Option Addr} {key i0 x0 : Nat} {e : Value} (Ta : Tabs w) (H : XH w a ls B mm N c pa en mn mx num) (T : T0 B N c mn mx) (hlow : ∀ b, XS a B mm N b → 2 ≤ b) (hkey : key < 2 ^ B) (hi0 : i0 < B) (hx0 : N i0 (pre B i0 key) = some x0) (hn : N (i0 + 1) (pre B (i0 + 1) key) = none) (hnum : num < 4294967296) (he : KP w e key)
    (hk : ∀ ys c1 pi ei w', Cre w w' a ls B mm N c en (lfo N B mn) (lfo N B mx) num key i0 x0 e ys c1 pi ei B → Made B N c c1 key i0 x0 ys → F42_X k (some ⟨a, 0, none⟩) (key : Nat) (some ⟨ys B, 0, none⟩) pv sv root w') :
    Loop [.ptr, .any, (.int .u64), .ptr, .ptr, .ptr, .ptr, (.int .u8)] (F42_L1 k) (some ⟨a, 0, none⟩) e (key : Nat) (some ⟨x0, 0, none⟩) pv sv root ((i0 : Nat) : Int) w := by
  have hB := H.la.b64
  have hk64 : key < 18446744073709551616 := Nat.lt_of_lt_of_le hkey (Nat.pow_le_pow_right (n := 2) (by decide) hB)
  refine F42_L1_rule (fun xft e' key' n p s r i w' => xft = some ⟨a, 0, none⟩ ∧ e' = e ∧ key' = (key : Nat) ∧ p = pv ∧ s = sv ∧ r = root ∧ ∃ (j : Nat) (ys : Nat → Nat) (ci : Nd) (pi : Nat → Option Nat) (ei : Nat → Value), i = j ∧ i0 ≤ j ∧ j ≤ B ∧ n = some ⟨ys j, 0, none⟩ ∧ Cre w w' a ls B mm N c en (lfo N B mn) (lfo N B mx) num key i0 x0 e ys ci pi ei j)
    (fun _ _ _ _ _ _ _ i _ => ((B : Int) - i).toNat) ?_ ⟨rfl, rfl, rfl, rfl, rfl, rfl, i0, (fun _ => x0), c, pa, en, rfl, Nat.le_refl _, by omega, rfl, ⟨⟨rfl, fun h1 h2 => by omega, fun h1 h2 => by omega, fun _ _ => rfl, fun _ => rfl, fun h => by omega, fun h1 h2 => by omega, fun h1 h2 => by omega, fun h => by omega⟩, ?_, ?_, ?_, fun _ _ _ _ => rfl, fun h => by omega, he, Ta, Fr.refl _ _, fun j h1 h2 => by omega⟩⟩
  · rintro xft e' key' n p s r i w1 ⟨rfl, ee, rfl, ep, es, er, j, ys, ci, pi, ei, rfl, hj0, hjB, rfl, Cr⟩
    obtain rfl := ee.symm
    obtain rfl := ep.symm
    obtain rfl := es.symm
    obtain rfl := er.symm
    have hbl := bit_lt B j key
    unfold F42_L1
    simp only [NN_mk]
    refine load_int (i := 3) Cr.hd rfl ?_
    by_cases hlt : j < B
    rotate_left
    · have : j = B := by omega
      subst this
      rw [decide_eq_false (by omega)]
      simp only [BIf_false]
      exact hk ys ci pi ei w1 Cr (Cr.m.made hkey hi0 hx0 hn)
    rw [decide_eq_true (by omega)]
    simp only [BIf_true]
    refine drw_intro fun w2 f2 z2 => ?_
    have Cr : Cre w w2 a ls B mm N c en (lfo N B mn) (lfo N B mx) num key i0 x0 e ys ci pi ei j := ⟨Cr.m, Cr.hd.fr f2 id, Cr.la.fr f2 id fun _ _ => id, Cr.nd.fr0 f2, Cr.eo, Cr.ee, Cr.kp.fr0 f2, Cr.ta.fr f2 id id, Cr.fr.trans f2 fun _ h => h.elim, Cr.yn⟩
    refine load_int (i := 4) Cr.hd rfl ?_
    have e1 : addI .u8 ((64 - B : Nat) : Int) ((j : Nat) : Int) = ((64 - B + j : Nat) : Int) := by
      show IntKind.wrap .u8 _ = _
      rw [wrap_u8 (by omega) (by omega)]; omega
    rw [e1]
    simp only [Int.toNat_natCast]
    refine ⟨by omega, LoadT_int.2 ⟨_, by rw [add_mk, Nat.zero_add]; exact Cr.ta.ps (64 - B + j) (by omega), ?_⟩⟩
    refine load_int (i := 3) Cr.hd rfl ?_
    have e2 : subI .u8 (subI .u8 ((B : Nat) : Int) 1) ((j : Nat) : Int) = ((B - (j + 1) : Nat) : Int) := by
      have : subI .u8 ((B : Nat) : Int) 1 = ((B - 1 : Nat) : Int) := by
        show IntKind.wrap .u8 _ = _
        rw [wrap_u8 (by omega) (by omega)]; omega
      rw [this]
      show IntKind.wrap .u8 _ = _
      rw [wrap_u8 (by omega) (by omega)]; omega
    rw [e2]
    simp only [Int.toNat_natCast]
    refine ⟨by omega, bind_intro ?_⟩
    have e3 : shrI .u64 (andI .u64 ((key : Nat) : Int) ((2 ^ (63 - (64 - B + j)) : Nat) : Int)) (B - (j + 1)) = ((bit B j key : Nat) : Int) := by
      have h1 : 2 ^ (63 - (64 - B + j)) < 18446744073709551616 := by
        have := Nat.pow_lt_pow_right (show 1 < 2 by decide) (show 63 - (64 - B + j) < 64 by omega)
        exact this
      rw [andI_nat hk64 h1, shr_nat .u64 (show B - (j + 1) ≤ 64 by omega), show 63 - (64 - B + j) = B - (j + 1) by omega, and_one]
      rfl
    rw [e3]
    have h0 : N i0 (pre B i0 key) = some (ys i0) := by rw [Cr.m.y0]; exact hx0
    have hcur := gri_cur (k := key) (i := j) hj0 h0
    have hnd := Cr.nd.nd hcur
    simp only [Int.toNat_natCast]
    refine ⟨by omega, load_side (c := fun s => ci (ys j) s) hnd hbl ?_⟩
    have J6 : F42_J6 k (fun xft' e'' key'' n' p' s' r' i' w' => (xft' = some ⟨a, 0, none⟩ ∧ e'' = e ∧ key'' = (key : Nat) ∧ p' = pv ∧ s' = sv ∧ r' = root ∧ ∃ (j : Nat) (ys : Nat → Nat) (ci : Nd) (pi : Nat → Option Nat) (ei : Nat → Value), i' = j ∧ i0 ≤ j ∧ j ≤ B ∧ n' = some ⟨ys j, 0, none⟩ ∧ Cre w w' a ls B mm N c en (lfo N B mn) (lfo N B mx) num key i0 x0 e ys ci pi ei j) ∧ ((B : Int) - i').toNat < ((B : Int) - ((j : Nat) : Int)).toNat) (some ⟨a, 0, none⟩) e (key : Nat) (some ⟨ys j, 0, none⟩) pv sv root ((bit B j key : Nat) : Int) (j : Nat) true w2 :=
      F42_J6_spec Ta Cr T hlow hkey hj0 hlt hx0 hn hnum fun ys' ci' pi' ei' w' C => ⟨⟨rfl, rfl, rfl, rfl, rfl, rfl, j + 1, ys', ci', pi', ei', rfl, by omega, by omega, rfl, C⟩, by omega⟩
    cases hc : ci (ys j) (bit B j key) with
    | none =>
      simp only [oA_none, Option.isNone_none, BIf_true]
      exact J6
    | some l =>
      simp only [oA_some, Option.isNone_some, BIf_false]
      have hij : j = i0 := by
        rcases Nat.lt_or_ge i0 j with h | h
        · rw [Cr.m.cl h hbl] at hc; cases hc
        · omega
      subst hij
      have hcc : ci = c := Cr.m.ce rfl
      refine ⟨by omega, load_side (c := fun s => ci (ys j) s) hnd hbl ?_⟩
      have Hn : Nds w2 B N ci pi ei := by have := Cr.nd; rwa [gri_zero] at this
      have hlf := T.th h0 hbl hlt (by rw [pre_bit hlt]; exact hn) (by rw [← hcc]; exact hc)
      obtain ⟨q, hq, _⟩ := hlf
      refine F52_call (F52_spec (o := ci (ys j) (bit B j key)) Hn (hcc ▸ T) (.inr ⟨l, hc, .inr ⟨q, hq⟩⟩) fun b hb => back_bool ?_)
      rw [hb.2 ⟨l, q, hc, hq⟩]
      exact J6
  · rw [if_neg (by omega)]; exact H.hd
  · rw [gri_zero]; exact H.la
  · rw [gri_zero]; exact H.nd
end
end Go.Proofs.YtaacaokocamlcaaDoor.E
