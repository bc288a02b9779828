/-
  An x-fast trie in memory: the walk up its own branch. (Both sides were printed by gen7.py.)
-/
import Derived.Test.YtaacaokocamlcaaDoorX6
namespace Go.Proofs.YtaacaokocamlcaaDoor.E
open Go
set_option linter.unusedSimpArgs false
set_option linter.unusedVariables false
set_option maxRecDepth 100000
set_option maxHeartbeats 4000000

section
variable {B : Nat} {N c : Nd} {pa : Nat → Option Nat} {en : Nat → Value} {mn mx : Option Nat} {w : World}

theorem F55_side1 {k : Value → W} {again : Option Addr → Option Addr → Option Addr → Option Addr → Option Addr → W} {root0 pv sv : Option Nat} {y kk j p z : Nat} (H : Nds w B N c pa en) (T : T0 B N c mn mx) (hy : N B kk = some y) (hj : j < B) (hz : N j p = some z)
    (hv : ∀ l, sv = some l → Lf B N mn mx 1 l) (hsl : j + 1 = B → ∀ t, N (j + 1) (2 * p + 1) = some t → c z 1 = some y)
    (hr : root0 ≠ some z) (hrk : Known w (oA root0))
    (hk : ∀ c2 w2, Nds w2 B N c2 pa en → T0 B N c2 mn mx → (∀ x s, c2 x s = c x s ∨ (x = z ∧ s = 1 ∧ c2 z 1 = sv)) → (c2 z 1 = none → sv = none) → Fr (fun b => b = z) w w2 → F55_J2 k again (oA root0) (some ⟨y, 0, none⟩) (oA pv) (oA sv) (some ⟨z, 0, none⟩) w2) :
    F55_L1 k again (oA root0) (some ⟨y, 0, none⟩) (oA pv) (oA sv) (some ⟨z, 0, none⟩) w := by
  have hB1 := H.nd hz
  unfold F55_L1
  simp only [Option.isNone_some, Bool.not_false, BIf_true]
  refine ptr_neq (H.known hz) hrk ?_
  rw [decide_eq_true (show (some ⟨z, 0, none⟩ : Option Addr) ≠ oA root0 from fun e => hr (oA_inj.1 (show oA root0 = oA (some z) from e.symm)))]
  simp only [BIf_true]
  simp only [NN_mk]
  refine ⟨by decide, load_pO (p := c z 1) (i := 2) hB1 rfl ?_⟩
  have skip : (c z 1 = none → sv = none) → F55_J2 k again (oA root0) (some ⟨y, 0, none⟩) (oA pv) (oA sv) (some ⟨z, 0, none⟩) w := fun h => hk c w H T (fun _ _ => .inl rfl) h (Fr.refl _ _)
  refine F62_call (F62_spec (o := c z 1) H T (T.kinds hz (by decide)) fun b hb => back_bool ?_)
  cases b with
  | true =>
    simp only [Bool.not_true, BIf_false]
    unfold F55_J1
    simp only [BIf_false]
    obtain ⟨t, ht, _⟩ := hb.1 rfl
    exact skip fun e => by rw [e] at ht; cases ht
  | false =>
    simp only [Bool.not_false, BIf_true, NN_mk]
    have kc : Known w (oA (c z 1)) := by
      rcases T.kinds hz (show 1 < 2 by decide) with e | ⟨t, e, ⟨j2, p2, _, h⟩ | ⟨q, h⟩⟩
      · rw [e]; exact .inl rfl
      · rw [e]; exact H.known h
      · rw [e]; exact H.known h
    have kv : Known w (oA sv) := by
      cases hvv : sv with
      | none => exact .inl rfl
      | some l => obtain ⟨q, h, _⟩ := hv l hvv; exact H.known h
    refine ⟨by decide, load_pO (p := c z 1) (i := 2) hB1 rfl ?_⟩
    refine ptr_neq kc kv ?_
    by_cases he : oA (c z 1) = oA sv
    · rw [decide_eq_false (fun h => h he)]
      unfold F55_J1
      simp only [BIf_false]
      exact skip fun e => by rw [← oA_inj.1 he]; exact e
    rw [decide_eq_true he]
    simp only [BIf_true, NN_mk]
    refine ⟨by decide, load_pO (p := c z 1) (i := 2) hB1 rfl ?_⟩
    refine ptr_neq kc (H.known hy) ?_
    unfold F55_J1
    by_cases he2 : oA (c z 1) = some ⟨y, 0, none⟩
    · rw [decide_eq_false (fun h => h he2)]
      simp only [BIf_false]
      exact skip fun e => by rw [e] at he2; cases he2
    rw [decide_eq_true he2]
    simp only [BIf_true, NN_mk]
    refine ⟨by decide, store_intro (i := 2) hB1 (by simp) rfl fun w2 b2 f2 z2 => ?_⟩
    have H2 : Nds w2 B N (sput c z 1 sv) pa en := H.put hz (by decide) b2 f2
    have T2 : T0 B N (sput c z 1 sv) mn mx := by
      refine T.wrI hz hj (by decide) hv ?_
      cases hN : N (j + 1) (2 * p + 1) with
      | none => exact .inl rfl
      | some t =>
        rcases Nat.lt_or_ge (j + 1) B with h4 | h4
        · have := hb.2 ⟨t, T.ch hz (by decide) h4 hN, _, _, h4, hN⟩
          cases this
        · have := hsl (by have := (T.rng hN).1; omega) t hN
          rw [this] at he2
          exact absurd rfl he2
    refine hk _ w2 H2 T2 (fun x s => ?_) (fun e => by rw [sput_same] at e; exact e) f2
    by_cases e : x = z ∧ s = 1
    · obtain ⟨rfl, rfl⟩ := e
      exact .inr ⟨rfl, rfl, sput_same ..⟩
    · exact .inl (sput_ne _ _ _ _ (by omega))

theorem F55_side0 {k : Value → W} {again : Option Addr → Option Addr → Option Addr → Option Addr → Option Addr → W} {root0 pv sv : Option Nat} {y kk j p z : Nat} (H : Nds w B N c pa en) (T : T0 B N c mn mx) (hy : N B kk = some y) (hj : j < B) (hz : N j p = some z)
    (hv : ∀ l, pv = some l → Lf B N mn mx 0 l) (hsl : j + 1 = B → ∀ t, N (j + 1) (2 * p + 0) = some t → c z 0 = some y)
    (hk : ∀ c2 w2, Nds w2 B N c2 pa en → T0 B N c2 mn mx → (∀ x s, c2 x s = c x s ∨ (x = z ∧ s = 0 ∧ c2 z 0 = pv)) → (c2 z 0 = none → pv = none) → Fr (fun b => b = z) w w2 → F55_J4 k again (oA root0) (some ⟨y, 0, none⟩) (oA pv) (oA sv) (some ⟨z, 0, none⟩) w2) :
    F55_J2 k again (oA root0) (some ⟨y, 0, none⟩) (oA pv) (oA sv) (some ⟨z, 0, none⟩) w := by
  have hB1 := H.nd hz
  unfold F55_J2
  simp only [NN_mk]
  refine ⟨by decide, load_pO (p := c z 0) (i := 1) hB1 rfl ?_⟩
  have skip : (c z 0 = none → pv = none) → F55_J4 k again (oA root0) (some ⟨y, 0, none⟩) (oA pv) (oA sv) (some ⟨z, 0, none⟩) w := fun h => hk c w H T (fun _ _ => .inl rfl) h (Fr.refl _ _)
  refine F62_call (F62_spec (o := c z 0) H T (T.kinds hz (by decide)) fun b hb => back_bool ?_)
  cases b with
  | true =>
    simp only [Bool.not_true, BIf_false]
    unfold F55_J3
    simp only [BIf_false]
    obtain ⟨t, ht, _⟩ := hb.1 rfl
    exact skip fun e => by rw [e] at ht; cases ht
  | false =>
    simp only [Bool.not_false, BIf_true, NN_mk]
    have kc : Known w (oA (c z 0)) := by
      rcases T.kinds hz (show 0 < 2 by decide) with e | ⟨t, e, ⟨j2, p2, _, h⟩ | ⟨q, h⟩⟩
      · rw [e]; exact .inl rfl
      · rw [e]; exact H.known h
      · rw [e]; exact H.known h
    have kv : Known w (oA pv) := by
      cases hvv : pv with
      | none => exact .inl rfl
      | some l => obtain ⟨q, h, _⟩ := hv l hvv; exact H.known h
    refine ⟨by decide, load_pO (p := c z 0) (i := 1) hB1 rfl ?_⟩
    refine ptr_neq kc kv ?_
    by_cases he : oA (c z 0) = oA pv
    · rw [decide_eq_false (fun h => h he)]
      unfold F55_J3
      simp only [BIf_false]
      exact skip fun e => by rw [← oA_inj.1 he]; exact e
    rw [decide_eq_true he]
    simp only [BIf_true, NN_mk]
    refine ⟨by decide, load_pO (p := c z 0) (i := 1) hB1 rfl ?_⟩
    refine ptr_neq kc (H.known hy) ?_
    unfold F55_J3
    by_cases he2 : oA (c z 0) = some ⟨y, 0, none⟩
    · rw [decide_eq_false (fun h => h he2)]
      simp only [BIf_false]
      exact skip fun e => by rw [e] at he2; cases he2
    rw [decide_eq_true he2]
    simp only [BIf_true, NN_mk]
    refine ⟨by decide, store_intro (i := 1) hB1 (by simp) rfl fun w2 b2 f2 z2 => ?_⟩
    have H2 : Nds w2 B N (sput c z 0 pv) pa en := H.put hz (by decide) b2 f2
    have T2 : T0 B N (sput c z 0 pv) mn mx := by
      refine T.wrI hz hj (by decide) hv ?_
      cases hN : N (j + 1) (2 * p + 0) with
      | none => exact .inl rfl
      | some t =>
        rcases Nat.lt_or_ge (j + 1) B with h4 | h4
        · have := hb.2 ⟨t, T.ch hz (by decide) h4 hN, _, _, h4, hN⟩
          cases this
        · have := hsl (by have := (T.rng hN).1; omega) t hN
          rw [this] at he2
          exact absurd rfl he2
    refine hk _ w2 H2 T2 (fun x s => ?_) (fun e => by rw [sput_same] at e; exact e) f2
    by_cases e : x = z ∧ s = 0
    · obtain ⟨rfl, rfl⟩ := e
      exact .inr ⟨rfl, rfl, sput_same ..⟩
    · exact .inl (sput_ne _ _ _ _ (by omega))

/-- Which nodes walkUpNode comes to. -/
def Vis (N : Nd) (B i0 kk x : Nat) : Prop := ∃ j, (i0 < j ∨ j = 0) ∧ j < B ∧ N j (pre B j kk) = some x
/-- walkUpNode. -/
theorem F55_spec {k : Value → W} {xft : Option Addr} {pv sv : Option Nat} {y kk i0 : Nat} (H : Nds w B N c pa en) (T : T0 B N c mn mx) (hB2 : 1 < B) (hi0 : i0 < B) (hy : N B kk = some y) (hpv : ∀ l, pv = some l → Lf B N mn mx 0 l) (hsv : ∀ l, sv = some l → Lf B N mn mx 1 l)
    (hsl : i0 + 1 < B → ∀ z s t, N (B - 1) (pre B (B - 1) kk) = some z → s < 2 → N B (2 * pre B (B - 1) kk + s) = some t → c z s = some y)
    (hk : ∀ c' w', Nds w' B N c' pa en → T0 B N c' mn mx → (∀ x s, c' x s = c x s ∨ (Vis N B i0 kk x ∧ ((s = 1 ∧ c' x 1 = sv) ∨ (s = 0 ∧ c' x 0 = pv)))) → (∀ j z, i0 < j → j < B → N j (pre B j kk) = some z → (c' z 1 = none → sv = none) ∧ (c' z 0 = none → pv = none)) → Fr (fun b => ∃ i p, N i p = some b) w w' → k (.tuple #[]) w') :
    F55 k xft (oA (if i0 = 0 then none else N i0 (pre B i0 kk))) (some ⟨y, 0, none⟩) (oA pv) (oA sv) w := by
  have hyB := H.nd hy
  have hb0 := T.b0
  have start : oA (pa y) = oA (N (B - 1) (pre B (B - 1) kk)) := by
    obtain ⟨b, rfl⟩ : ∃ b, B = b + 1 := ⟨B - 1, by omega⟩
    rw [H.pS hy, Nat.add_sub_cancel]
    congr 2
    rw [← pre_succ (B := b + 1) (i := b) (by omega), pre_all]
  obtain ⟨z0, hz0⟩ := T.path (i := B - 1) (by omega) hy
  obtain ⟨zi, hzi⟩ := T.path (i := i0) (by omega) hy
  generalize hroot : (if i0 = 0 then none else N i0 (pre B i0 kk)) = root0
  unfold F55
  simp only [NN_mk]
  refine load_pO (p := pa y) (i := 3) hyB rfl ?_
  rw [start, hz0]
  refine F55_L1_rule (fun r8 n9 p10 s11 n12 w' => r8 = oA root0 ∧ n9 = some ⟨y, 0, none⟩ ∧ p10 = oA pv ∧ s11 = oA sv ∧ ∃ c', Nds w' B N c' pa en ∧ T0 B N c' mn mx ∧ (∀ x s, c' x s = c x s ∨ (Vis N B i0 kk x ∧ ((s = 1 ∧ c' x 1 = sv) ∨ (s = 0 ∧ c' x 0 = pv)))) ∧ Fr (fun b => ∃ i p, N i p = some b) w w' ∧
      ((n12 = none ∧ ∀ j z, i0 < j → j < B → N j (pre B j kk) = some z → (c' z 1 = none → sv = none) ∧ (c' z 0 = none → pv = none)) ∨ ∃ j z, i0 ≤ j ∧ j < B ∧ n12 = some ⟨z, 0, none⟩ ∧ N j (pre B j kk) = some z ∧ (∀ j' z', j < j' → j' < B → N j' (pre B j' kk) = some z' → (c' z' 1 = none → sv = none) ∧ (c' z' 0 = none → pv = none)) ∧ ∀ j' z' s, j' ≤ j → N j' (pre B j' kk) = some z' → c' z' s = c z' s))
    (fun _ _ _ _ n12 _ => lev N n12) ?_ ⟨rfl, rfl, rfl, rfl, c, H, T, fun x s => .inl rfl, Fr.refl _ _, .inr ⟨B - 1, z0, by omega, by omega, rfl, hz0, fun j' z' h1 h2 => by omega, fun _ _ _ _ _ => rfl⟩⟩
  rintro r8 n9 p10 s11 n12 w1 ⟨rfl, rfl, rfl, rfl, c1, H1, T1, W1, f1, hn⟩
  rcases hn with ⟨rfl, hall⟩ | ⟨j, z, hij, hj, rfl, hz, hvis, hold⟩
  · unfold F55_L1
    simp only [Option.isNone_none, Bool.not_true, BIf_false]
    exact hk c1 w1 H1 T1 W1 hall f1
  have kr : Known w1 (oA root0) := by
    rw [← hroot]
    split
    · exact .inl rfl
    · rw [hzi]; exact H1.known hzi
  by_cases hr : root0 = some z
  · unfold F55_L1
    simp only [Option.isNone_some, Bool.not_false, BIf_true]
    refine ptr_neq (H1.known hz) kr ?_
    rw [decide_eq_false (fun h => h (by rw [hr]; rfl))]
    simp only [BIf_false]
    refine hk c1 w1 H1 T1 W1 (fun j' z' h1 h2 h3 => ?_) f1
    refine hvis j' z' ?_ h2 h3
    rw [← hroot] at hr
    split at hr
    · cases hr
    · have := (T.inj hz hr).1; omega
  have hvj : i0 < j ∨ j = 0 := by
    rcases Nat.lt_or_ge i0 j with h | h
    · exact .inl h
    · have : j = i0 := by omega
      subst this
      by_cases h0 : j = 0
      · exact .inr h0
      · rw [if_neg h0] at hroot
        exact absurd (hroot.symm.trans hz) hr
  have hVz : Vis N B i0 kk z := ⟨j, hvj, hj, hz⟩
  have hslot : ∀ s, s < 2 → j + 1 = B → ∀ t, N (j + 1) (2 * pre B j kk + s) = some t → c1 z s = some y := fun s hs e t ht => by
    have hjB : j = B - 1 := by omega
    rw [hold j z s (Nat.le_refl _) hz]
    have hz' := hz
    rw [hjB] at hz'
    refine hsl (by omega) z s t hz' hs ?_
    rw [← hjB]; rw [e] at ht; exact ht
  refine F55_side1 H1 T1 hy hj hz hsv (hslot 1 (by decide)) hr kr fun c2 w2 H2 T2 W2 n2 f2 => ?_
  have c2z : c2 z 0 = c1 z 0 := (W2 z 0).resolve_right fun h => by cases h.2.1
  refine F55_side0 H2 T2 hy hj hz hpv (fun e t ht => by rw [c2z]; exact hslot 0 (by decide) e t ht) fun c3 w3 H3 T3 W3 n3 f3 => ?_
  have c3z : c3 z 1 = c2 z 1 := (W3 z 1).resolve_right fun h => by cases h.2.1
  unfold F55_J4
  simp only [NN_mk]
  refine load_pO (p := pa z) (i := 3) (H3.nd hz) rfl ?_
  rw [lev_eq T hz]
  have f03 : Fr (fun b => ∃ i p, N i p = some b) w w3 := (f1.trans f2 fun b e => .inl ⟨j, _, (show b = z from e) ▸ hz⟩).trans f3 fun b e => .inl ⟨j, _, (show b = z from e) ▸ hz⟩
  have W : ∀ x s, c3 x s = c x s ∨ (Vis N B i0 kk x ∧ ((s = 1 ∧ c3 x 1 = sv) ∨ (s = 0 ∧ c3 x 0 = pv))) := fun x s => by
    rcases W3 x s with h3 | ⟨rfl, rfl, h3⟩
    · rcases W2 x s with h2 | ⟨rfl, rfl, h2⟩
      · rcases W1 x s with h1 | ⟨hV, ⟨rfl, h⟩ | ⟨rfl, h⟩⟩
        · exact .inl (by rw [h3, h2, h1])
        · exact .inr ⟨hV, .inl ⟨rfl, by rw [h3, h2, h]⟩⟩
        · exact .inr ⟨hV, .inr ⟨rfl, by rw [h3, h2, h]⟩⟩
      · exact .inr ⟨hVz, .inl ⟨rfl, by rw [h3, h2]⟩⟩
    · exact .inr ⟨hVz, .inr ⟨rfl, h3⟩⟩
  have other : ∀ {j' z' s}, j' ≠ j → N j' (pre B j' kk) = some z' → c3 z' s = c1 z' s := fun {j' z' s} h h2 => by
    have hne : z' ≠ z := fun e => by subst e; exact h (T.inj h2 hz).1
    rw [(W3 z' s).resolve_right fun h => hne h.1, (W2 z' s).resolve_right fun h => hne h.1]
  have V3 : ∀ j' z', j ≤ j' → j' < B → N j' (pre B j' kk) = some z' → (c3 z' 1 = none → sv = none) ∧ (c3 z' 0 = none → pv = none) := fun j' z' h1 h2 h3 => by
    by_cases e : j' = j
    · subst e
      rw [hz] at h3; cases h3
      exact ⟨fun e => n2 (by rw [← c3z]; exact e), n3⟩
    · rw [other e h3, other e h3]
      exact hvis j' z' (by omega) h2 h3
  cases j with
  | zero =>
    rw [H.p0 hz]
    exact ⟨⟨(by trivial), (by trivial), (by trivial), (by trivial), c3, H3, T3, W, f03, .inl ⟨rfl, fun j' z' h0 h1 h2 => V3 j' z' (Nat.zero_le _) h1 h2⟩⟩, by simp only [oA_none, lev_none]; omega⟩
  | succ j =>
    obtain ⟨z1, hz1⟩ := T.path (i := j) (by omega) hy
    rw [H.pS hz, pre_succ (by omega), hz1]
    refine ⟨⟨(by trivial), (by trivial), (by trivial), (by trivial), c3, H3, T3, W, f03, .inr ⟨j, z1, by omega, by omega, rfl, hz1, fun j' z' h1 h2 h3 => V3 j' z' (by omega) h2 h3, fun j' z' s h1 h2 => ?_⟩⟩, by rw [oA_some, lev_eq T hz1]; omega⟩
    rw [other (by omega) h2]; exact hold j' z' s (by omega) h2
end
end Go.Proofs.YtaacaokocamlcaaDoor.E
