/-
  An x-fast trie in memory: the walks up. (Both walks were printed by gen6.py.)
-/
import Derived.Test.YtaacaokocamlcaaDoorX5
import Derived.LaidEql
namespace Go.Proofs.YtaacaokocamlcaaDoor.E
open Go
set_option linter.unusedSimpArgs false
set_option linter.unusedVariables false
set_option maxRecDepth 100000
set_option maxHeartbeats 4000000

def Known (w : World) (x : Option Addr) : Prop := x = none ∨ ∃ b t vs, x = some ⟨b, 0, none⟩ ∧ Blk w b t vs
theorem size91 (w : World) : (sizeOf 91).run Tryd.prog w = .ok 4 w := by kernel_rfl
theorem run_ptrs {x y : Option Addr} {w : World} (hx : Known w x) (hy : Known w y) : (Op.equal 80 (.pointer x) (.pointer y)).run Tryd.prog w = .ok (decide (x = y)) w := by
  show (Op.equalIn (9999 + 1) 80 _ _).run _ w = _
  unfold Op.equalIn
  rcases hx with rfl | ⟨b, t, vs, rfl, hb⟩
  · rcases hy with rfl | ⟨c, t, vs, rfl, hc⟩
    · simp [run_underlying und80]
    · simp [run_underlying und80]
  · rcases hy with rfl | ⟨c, t', vs', rfl, hc⟩
    · simp [run_underlying und80]
    · simp only [Sem.run_bind, run_underlying und80, Result.andThen_ok, size91]
      by_cases hbc : b = c
      · subst hbc
        simp [run_sameAddr_same]
      · have hne : (⟨b, 0, none⟩ : Addr) ≠ ⟨c, 0, none⟩ := fun h => by cases h; exact hbc rfl
        have := run_sameAddr_other (P := Tryd.prog) (w := w) hne hb hc
        simp [this, hbc]
theorem ptr_neq {x y : Option Addr} {a b : Operand} {K : Bool → W} {w : World} (hx : Known w x) (hy : Known w y) (hk : K (decide (x ≠ y)) w) : RawS Tryd.prog (binS .neq 80 a b (.pointer x) (.pointer y)) (.s (.one .bool)) K w := by
  refine ⟨(decide (x ≠ y), ()), ?_, hk⟩
  have := run_ptrs hx hy
  unfold binS
  rw [Sem.run_bind, run_guard_ptr]
  simp [binOp, this]
  rfl
/-- How far a node is from above. -/
noncomputable def lev (N : Nd) (o : Option Addr) : Nat := open Classical in if h : ∃ j p z, o = some ⟨z, 0, none⟩ ∧ N j p = some z then Classical.choose h + 1 else 0
theorem lev_none (N : Nd) : lev N none = 0 := by
  unfold lev; rw [dif_neg]; rintro ⟨j, p, z, h, _⟩; cases h
section
variable {B : Nat} {N c : Nd} {pa : Nat → Option Nat} {en : Nat → Value} {mn mx : Option Nat} {w : World}
theorem lev_eq (T : T0 B N c mn mx) {j p z : Nat} (h : N j p = some z) : lev N (some ⟨z, 0, none⟩) = j + 1 := by
  unfold lev
  have hex : ∃ j p z', (some ⟨z, 0, none⟩ : Option Addr) = some ⟨z', 0, none⟩ ∧ N j p = some z' := ⟨j, p, z, rfl, h⟩
  rw [dif_pos hex]
  obtain ⟨p', z', h1, h2⟩ := Classical.choose_spec hex
  cases h1
  rw [(T.inj h2 h).1]
theorem Nds.known (H : Nds w B N c pa en) {i p x : Nat} (h : N i p = some x) : Known w (some ⟨x, 0, none⟩) := .inr ⟨x, _, _, rfl, H.nd h⟩
theorem Nds.put (H : Nds w B N c pa en) {i p z s : Nat} {v : Option Nat} {w' : World} (hz : N i p = some z) (hs : s < 2) (hb : Blk w' z 91 ([en z, pO (c z 0), pO (c z 1), pO (pa z)].set (s + 1) (pO v))) (f : Fr (fun b => b = z) w w') : Nds w' B N (sput c z s v) pa en := by
  refine ⟨fun {i' p' x} h => ?_, H.e0, fun {k x} h => (H.eB h).fr f fun b us hb2 e => ?_, H.p0, H.pS⟩
  · by_cases e : x = z
    · subst e
      have : s = 0 ∨ s = 1 := by omega
      rcases this with rfl | rfl
      · rw [sput_same, sput_ne _ _ _ _ (.inr (by decide))]; exact hb
      · rw [sput_same, sput_ne _ _ _ _ (.inr (by decide))]; exact hb
    · rw [sput_ne _ _ _ _ (.inl e), sput_ne _ _ _ _ (.inl e)]
      exact (H.nd h).fr f e
  · have e : b = z := e
    subst e
    exact absurd (hb2.unique (H.nd hz)).1 (by decide)

/-- walkUp, side 0. -/
theorem F53_spec {k : Value → W} {xft : Option Addr} {root0 : Option Nat} {y ks sx kk : Nat} (H : Nds w B N c pa en) (T : T0 B N c mn mx) (hs : N B ks = some sx) (hl : Lf B N mn mx 0 y) (hroot : ∀ z, root0 = some z → ∃ i, i < B ∧ N i (pre B i kk) = some z)
    (hk : ∀ c' w', Nds w' B N c' pa en → T0 B N c' mn mx → (∀ x s, c' x s = c x s ∨ (s = 0 ∧ In B N x ∧ c' x 0 = some y)) → (∀ j z, j < B → pre B j ks ≠ pre B j kk → N j (pre B j ks) = some z → c' z 0 ≠ none) → Fr (fun b => ∃ i p, N i p = some b) w w' → k (.tuple #[]) w') :
    F53 k xft (oA root0) (some ⟨y, 0, none⟩) (some ⟨sx, 0, none⟩) w := by
  have hsB := H.nd hs
  have hb0 := T.b0
  obtain ⟨y0, hy0, _⟩ := id hl
  have start : oA (pa sx) = oA (N (B - 1) (pre B (B - 1) ks)) := by
    obtain ⟨b, rfl⟩ : ∃ b, B = b + 1 := ⟨B - 1, by omega⟩
    rw [H.pS hs, Nat.add_sub_cancel]
    congr 2
    rw [← pre_succ (B := b + 1) (i := b) (by omega), pre_all]
  obtain ⟨z0, hz0⟩ := T.path (i := B - 1) (by omega) hs
  unfold F53
  simp only [NN_mk]
  refine load_pO (p := pa sx) (i := 3) hsB rfl ?_
  rw [start, hz0]
  refine F53_L1_rule (fun r7 n8 s9 n10 w' => r7 = oA root0 ∧ n8 = some ⟨y, 0, none⟩ ∧ s9 = some ⟨sx, 0, none⟩ ∧ ∃ c', Nds w' B N c' pa en ∧ T0 B N c' mn mx ∧ (∀ x s, c' x s = c x s ∨ (s = 0 ∧ In B N x ∧ c' x 0 = some y)) ∧ Fr (fun b => ∃ i p, N i p = some b) w w' ∧ ((n10 = none ∧ ∀ j z, j < B → N j (pre B j ks) = some z → c' z 0 ≠ none) ∨ ∃ j z, j < B ∧ n10 = some ⟨z, 0, none⟩ ∧ N j (pre B j ks) = some z ∧ ∀ j' z', j < j' → j' < B → N j' (pre B j' ks) = some z' → c' z' 0 ≠ none))
    (fun _ _ _ n10 _ => lev N n10) ?_ ⟨rfl, rfl, rfl, c, H, T, fun x s => .inl rfl, Fr.refl _ _, .inr ⟨B - 1, z0, by omega, rfl, hz0, fun j' z' h1 h2 => by omega⟩⟩
  rintro r7 n8 s9 n10 w1 ⟨rfl, rfl, rfl, c1, H1, T1, W1, f1, hn⟩
  unfold F53_L1
  rcases hn with ⟨rfl, hall⟩ | ⟨j, z, hj, rfl, hz, hvis⟩
  · simp only [Option.isNone_none, Bool.not_true, BIf_false]
    exact hk c1 w1 H1 T1 W1 (fun j z h1 _ h3 => hall j z h1 h3) f1
  simp only [Option.isNone_some, Bool.not_false, BIf_true]
  have kz : Known w1 (some ⟨z, 0, none⟩) := H1.known hz
  have kr : Known w1 (oA root0) := by
    cases root0 with
    | none => exact .inl rfl
    | some r => obtain ⟨i, hi, hr⟩ := hroot r rfl; exact H1.known hr
  refine ptr_neq kz kr ?_
  by_cases hr : (some ⟨z, 0, none⟩ : Option Addr) = oA root0
  · rw [decide_eq_false (fun h => h hr)]
    simp only [BIf_false]
    refine hk c1 w1 H1 T1 W1 (fun j' z' h1 h2 h3 => ?_) f1
    have hr' : some z = root0 := oA_inj.1 hr
    obtain ⟨i, hi, hri⟩ := hroot z hr'.symm
    obtain ⟨e1, e2⟩ := T.inj hz hri
    subst e1
    rcases Nat.lt_or_ge j j' with h4 | h4
    · exact hvis j' z' h4 h1 h3
    · exact absurd e2 (pre_ne h4 (by omega) h2)
  rw [decide_eq_true hr]
  have hB1 := H1.nd hz
  simp only [BIf_true, NN_mk]
  refine ⟨by decide, load_pO (p := c1 z 0) (i := 1) hB1 rfl ?_⟩
  -- what comes next
  have next : ∀ (c2 : Nd) (w2 : World), Nds w2 B N c2 pa en → T0 B N c2 mn mx → (∀ x s, c2 x s = c x s ∨ (s = 0 ∧ In B N x ∧ c2 x 0 = some y)) → Fr (fun b => ∃ i p, N i p = some b) w w2 → c2 z 0 ≠ none → (∀ x s, c2 x s = c1 x s ∨ (s = 0 ∧ c2 x 0 ≠ none)) →
      F53_J2 k (fun r7' n8' s9' n10' w' => (r7' = oA root0 ∧ n8' = some ⟨y, 0, none⟩ ∧ s9' = some ⟨sx, 0, none⟩ ∧ ∃ c', Nds w' B N c' pa en ∧ T0 B N c' mn mx ∧ (∀ x s, c' x s = c x s ∨ (s = 0 ∧ In B N x ∧ c' x 0 = some y)) ∧ Fr (fun b => ∃ i p, N i p = some b) w w' ∧ ((n10' = none ∧ ∀ j z, j < B → N j (pre B j ks) = some z → c' z 0 ≠ none) ∨ ∃ j z, j < B ∧ n10' = some ⟨z, 0, none⟩ ∧ N j (pre B j ks) = some z ∧ ∀ j' z', j < j' → j' < B → N j' (pre B j' ks) = some z' → c' z' 0 ≠ none)) ∧ lev N n10' < lev N (some ⟨z, 0, none⟩)) (oA root0) (some ⟨y, 0, none⟩) (some ⟨sx, 0, none⟩) (some ⟨z, 0, none⟩) w2 := by
    intro c2 w2 H2 T2 W2 f2 hz2 hmono
    have hvis2 : ∀ j' z', j ≤ j' → j' < B → N j' (pre B j' ks) = some z' → c2 z' 0 ≠ none := fun j' z' h1 h2 h3 => by
      rcases Nat.lt_or_ge j j' with h4 | h4
      · rcases hmono z' 0 with e | ⟨_, e⟩
        · rw [e]; exact hvis j' z' h4 h2 h3
        · exact e
      · have : j' = j := by omega
        subst this
        rw [hz] at h3; cases h3; exact hz2
    unfold F53_J2
    simp only [NN_mk]
    refine load_pO (p := pa z) (i := 3) (H2.nd hz) rfl ?_
    rw [lev_eq T hz]
    cases j with
    | zero =>
      rw [H.p0 hz]
      exact ⟨⟨(by trivial), (by trivial), (by trivial), c2, H2, T2, W2, f2, .inl ⟨rfl, fun j' z' h1 h2 => hvis2 j' z' (Nat.zero_le _) h1 h2⟩⟩, by simp only [oA_none, lev_none]; omega⟩
    | succ j =>
      obtain ⟨z1, hz1⟩ := T.path (i := j) (by omega) hs
      rw [H.pS hz, pre_succ (by omega), hz1]
      exact ⟨⟨(by trivial), (by trivial), (by trivial), c2, H2, T2, W2, f2, .inr ⟨j, z1, by omega, rfl, hz1, fun j' z' h1 h2 h3 => hvis2 j' z' (by omega) h2 h3⟩⟩, by rw [oA_some, lev_eq T hz1]; omega⟩
  refine F62_call (F62_spec (o := c1 z 0) H1 T1 (T1.kinds hz (by decide)) fun b hb => back_bool ?_)
  cases b with
  | true =>
    simp only [Bool.not_true, BIf_false]
    unfold F53_J1
    simp only [BIf_false]
    obtain ⟨t, ht, _⟩ := hb.1 rfl
    exact next c1 w1 H1 T1 W1 f1 (by rw [ht]; simp) fun _ _ => .inl rfl
  | false =>
    simp only [Bool.not_false, BIf_true, NN_mk]
    refine ⟨by decide, load_pO (p := c1 z 0) (i := 1) hB1 rfl ?_⟩
    have kc : Known w1 (oA (c1 z 0)) := by
      rcases T1.kinds hz (show 0 < 2 by decide) with e | ⟨t, e, ⟨j2, p2, _, h⟩ | ⟨q, h⟩⟩
      · rw [e]; exact .inl rfl
      · rw [e]; exact H1.known h
      · rw [e]; exact H1.known h
    refine ptr_neq kc (H1.known hs) ?_
    unfold F53_J1
    by_cases he : oA (c1 z 0) = some ⟨sx, 0, none⟩
    · rw [decide_eq_false (fun h => h he)]
      simp only [BIf_false]
      exact next c1 w1 H1 T1 W1 f1 (fun e => by rw [e] at he; cases he) fun _ _ => .inl rfl
    · rw [decide_eq_true he]
      simp only [BIf_true, NN_mk]
      refine ⟨by decide, store_intro (i := 1) hB1 (by simp) rfl fun w2 b2 f2 z2 => ?_⟩
      have H2 : Nds w2 B N (sput c1 z 0 (some y)) pa en := H1.put hz (by decide) b2 f2
      have T2 : T0 B N (sput c1 z 0 (some y)) mn mx := by
        refine T1.wrI hz hj (by decide) (fun l h => by cases h; exact hl) ?_
        cases hN : N (j + 1) (2 * pre B j ks + 0) with
        | none => exact .inl rfl
        | some t =>
          rcases Nat.lt_or_ge (j + 1) B with h4 | h4
          · have := hb.2 ⟨t, T1.ch hz (by decide) h4 hN, _, _, h4, hN⟩
            cases this
          · exact .inr ⟨by omega, by simp⟩
      refine next _ w2 H2 T2 (fun x s => ?_) (f1.trans f2 fun b e => .inl ⟨j, _, (show b = z from e) ▸ hz⟩) (by rw [sput_same]; simp) fun x s => ?_
      · by_cases e : x = z ∧ s = 0
        · obtain ⟨rfl, rfl⟩ := e
          exact .inr ⟨rfl, ⟨j, _, hj, hz⟩, sput_same ..⟩
        · rw [sput_ne _ _ _ _ (by omega)]
          rcases W1 x s with h | ⟨rfl, h2, h3⟩
          · exact .inl h
          · exact .inr ⟨rfl, h2, by rw [sput_ne _ _ _ _ (by omega)]; exact h3⟩
      · by_cases e : x = z ∧ s = 0
        · obtain ⟨rfl, rfl⟩ := e
          exact .inr ⟨rfl, by rw [sput_same]; simp⟩
        · exact .inl (sput_ne _ _ _ _ (by omega))

/-- walkUp, side 1. -/
theorem F54_spec {k : Value → W} {xft : Option Addr} {root0 : Option Nat} {y ks sx kk : Nat} (H : Nds w B N c pa en) (T : T0 B N c mn mx) (hs : N B ks = some sx) (hl : Lf B N mn mx 1 y) (hroot : ∀ z, root0 = some z → ∃ i, i < B ∧ N i (pre B i kk) = some z)
    (hk : ∀ c' w', Nds w' B N c' pa en → T0 B N c' mn mx → (∀ x s, c' x s = c x s ∨ (s = 1 ∧ In B N x ∧ c' x 1 = some y)) → (∀ j z, j < B → pre B j ks ≠ pre B j kk → N j (pre B j ks) = some z → c' z 1 ≠ none) → Fr (fun b => ∃ i p, N i p = some b) w w' → k (.tuple #[]) w') :
    F54 k xft (oA root0) (some ⟨y, 0, none⟩) (some ⟨sx, 0, none⟩) w := by
  have hsB := H.nd hs
  have hb0 := T.b0
  obtain ⟨y0, hy0, _⟩ := id hl
  have start : oA (pa sx) = oA (N (B - 1) (pre B (B - 1) ks)) := by
    obtain ⟨b, rfl⟩ : ∃ b, B = b + 1 := ⟨B - 1, by omega⟩
    rw [H.pS hs, Nat.add_sub_cancel]
    congr 2
    rw [← pre_succ (B := b + 1) (i := b) (by omega), pre_all]
  obtain ⟨z0, hz0⟩ := T.path (i := B - 1) (by omega) hs
  unfold F54
  simp only [NN_mk]
  refine load_pO (p := pa sx) (i := 3) hsB rfl ?_
  rw [start, hz0]
  refine F54_L1_rule (fun r7 n8 s9 n10 w' => r7 = oA root0 ∧ n8 = some ⟨y, 0, none⟩ ∧ s9 = some ⟨sx, 0, none⟩ ∧ ∃ c', Nds w' B N c' pa en ∧ T0 B N c' mn mx ∧ (∀ x s, c' x s = c x s ∨ (s = 1 ∧ In B N x ∧ c' x 1 = some y)) ∧ Fr (fun b => ∃ i p, N i p = some b) w w' ∧ ((n10 = none ∧ ∀ j z, j < B → N j (pre B j ks) = some z → c' z 1 ≠ none) ∨ ∃ j z, j < B ∧ n10 = some ⟨z, 0, none⟩ ∧ N j (pre B j ks) = some z ∧ ∀ j' z', j < j' → j' < B → N j' (pre B j' ks) = some z' → c' z' 1 ≠ none))
    (fun _ _ _ n10 _ => lev N n10) ?_ ⟨rfl, rfl, rfl, c, H, T, fun x s => .inl rfl, Fr.refl _ _, .inr ⟨B - 1, z0, by omega, rfl, hz0, fun j' z' h1 h2 => by omega⟩⟩
  rintro r7 n8 s9 n10 w1 ⟨rfl, rfl, rfl, c1, H1, T1, W1, f1, hn⟩
  unfold F54_L1
  rcases hn with ⟨rfl, hall⟩ | ⟨j, z, hj, rfl, hz, hvis⟩
  · simp only [Option.isNone_none, Bool.not_true, BIf_false]
    exact hk c1 w1 H1 T1 W1 (fun j z h1 _ h3 => hall j z h1 h3) f1
  simp only [Option.isNone_some, Bool.not_false, BIf_true]
  have kz : Known w1 (some ⟨z, 0, none⟩) := H1.known hz
  have kr : Known w1 (oA root0) := by
    cases root0 with
    | none => exact .inl rfl
    | some r => obtain ⟨i, hi, hr⟩ := hroot r rfl; exact H1.known hr
  refine ptr_neq kz kr ?_
  by_cases hr : (some ⟨z, 0, none⟩ : Option Addr) = oA root0
  · rw [decide_eq_false (fun h => h hr)]
    simp only [BIf_false]
    refine hk c1 w1 H1 T1 W1 (fun j' z' h1 h2 h3 => ?_) f1
    have hr' : some z = root0 := oA_inj.1 hr
    obtain ⟨i, hi, hri⟩ := hroot z hr'.symm
    obtain ⟨e1, e2⟩ := T.inj hz hri
    subst e1
    rcases Nat.lt_or_ge j j' with h4 | h4
    · exact hvis j' z' h4 h1 h3
    · exact absurd e2 (pre_ne h4 (by omega) h2)
  rw [decide_eq_true hr]
  have hB1 := H1.nd hz
  simp only [BIf_true, NN_mk]
  refine ⟨by decide, load_pO (p := c1 z 1) (i := 2) hB1 rfl ?_⟩
  -- what comes next
  have next : ∀ (c2 : Nd) (w2 : World), Nds w2 B N c2 pa en → T0 B N c2 mn mx → (∀ x s, c2 x s = c x s ∨ (s = 1 ∧ In B N x ∧ c2 x 1 = some y)) → Fr (fun b => ∃ i p, N i p = some b) w w2 → c2 z 1 ≠ none → (∀ x s, c2 x s = c1 x s ∨ (s = 1 ∧ c2 x 1 ≠ none)) →
      F54_J2 k (fun r7' n8' s9' n10' w' => (r7' = oA root0 ∧ n8' = some ⟨y, 0, none⟩ ∧ s9' = some ⟨sx, 0, none⟩ ∧ ∃ c', Nds w' B N c' pa en ∧ T0 B N c' mn mx ∧ (∀ x s, c' x s = c x s ∨ (s = 1 ∧ In B N x ∧ c' x 1 = some y)) ∧ Fr (fun b => ∃ i p, N i p = some b) w w' ∧ ((n10' = none ∧ ∀ j z, j < B → N j (pre B j ks) = some z → c' z 1 ≠ none) ∨ ∃ j z, j < B ∧ n10' = some ⟨z, 0, none⟩ ∧ N j (pre B j ks) = some z ∧ ∀ j' z', j < j' → j' < B → N j' (pre B j' ks) = some z' → c' z' 1 ≠ none)) ∧ lev N n10' < lev N (some ⟨z, 0, none⟩)) (oA root0) (some ⟨y, 0, none⟩) (some ⟨sx, 0, none⟩) (some ⟨z, 0, none⟩) w2 := by
    intro c2 w2 H2 T2 W2 f2 hz2 hmono
    have hvis2 : ∀ j' z', j ≤ j' → j' < B → N j' (pre B j' ks) = some z' → c2 z' 1 ≠ none := fun j' z' h1 h2 h3 => by
      rcases Nat.lt_or_ge j j' with h4 | h4
      · rcases hmono z' 1 with e | ⟨_, e⟩
        · rw [e]; exact hvis j' z' h4 h2 h3
        · exact e
      · have : j' = j := by omega
        subst this
        rw [hz] at h3; cases h3; exact hz2
    unfold F54_J2
    simp only [NN_mk]
    refine load_pO (p := pa z) (i := 3) (H2.nd hz) rfl ?_
    rw [lev_eq T hz]
    cases j with
    | zero =>
      rw [H.p0 hz]
      exact ⟨⟨(by trivial), (by trivial), (by trivial), c2, H2, T2, W2, f2, .inl ⟨rfl, fun j' z' h1 h2 => hvis2 j' z' (Nat.zero_le _) h1 h2⟩⟩, by simp only [oA_none, lev_none]; omega⟩
    | succ j =>
      obtain ⟨z1, hz1⟩ := T.path (i := j) (by omega) hs
      rw [H.pS hz, pre_succ (by omega), hz1]
      exact ⟨⟨(by trivial), (by trivial), (by trivial), c2, H2, T2, W2, f2, .inr ⟨j, z1, by omega, rfl, hz1, fun j' z' h1 h2 h3 => hvis2 j' z' (by omega) h2 h3⟩⟩, by rw [oA_some, lev_eq T hz1]; omega⟩
  refine F62_call (F62_spec (o := c1 z 1) H1 T1 (T1.kinds hz (by decide)) fun b hb => back_bool ?_)
  cases b with
  | true =>
    simp only [Bool.not_true, BIf_false]
    unfold F54_J1
    simp only [BIf_false]
    obtain ⟨t, ht, _⟩ := hb.1 rfl
    exact next c1 w1 H1 T1 W1 f1 (by rw [ht]; simp) fun _ _ => .inl rfl
  | false =>
    simp only [Bool.not_false, BIf_true, NN_mk]
    refine ⟨by decide, load_pO (p := c1 z 1) (i := 2) hB1 rfl ?_⟩
    have kc : Known w1 (oA (c1 z 1)) := by
      rcases T1.kinds hz (show 1 < 2 by decide) with e | ⟨t, e, ⟨j2, p2, _, h⟩ | ⟨q, h⟩⟩
      · rw [e]; exact .inl rfl
      · rw [e]; exact H1.known h
      · rw [e]; exact H1.known h
    refine ptr_neq kc (H1.known hs) ?_
    unfold F54_J1
    by_cases he : oA (c1 z 1) = some ⟨sx, 0, none⟩
    · rw [decide_eq_false (fun h => h he)]
      simp only [BIf_false]
      exact next c1 w1 H1 T1 W1 f1 (fun e => by rw [e] at he; cases he) fun _ _ => .inl rfl
    · rw [decide_eq_true he]
      simp only [BIf_true, NN_mk]
      refine ⟨by decide, store_intro (i := 2) hB1 (by simp) rfl fun w2 b2 f2 z2 => ?_⟩
      have H2 : Nds w2 B N (sput c1 z 1 (some y)) pa en := H1.put hz (by decide) b2 f2
      have T2 : T0 B N (sput c1 z 1 (some y)) mn mx := by
        refine T1.wrI hz hj (by decide) (fun l h => by cases h; exact hl) ?_
        cases hN : N (j + 1) (2 * pre B j ks + 1) with
        | none => exact .inl rfl
        | some t =>
          rcases Nat.lt_or_ge (j + 1) B with h4 | h4
          · have := hb.2 ⟨t, T1.ch hz (by decide) h4 hN, _, _, h4, hN⟩
            cases this
          · exact .inr ⟨by omega, by simp⟩
      refine next _ w2 H2 T2 (fun x s => ?_) (f1.trans f2 fun b e => .inl ⟨j, _, (show b = z from e) ▸ hz⟩) (by rw [sput_same]; simp) fun x s => ?_
      · by_cases e : x = z ∧ s = 1
        · obtain ⟨rfl, rfl⟩ := e
          exact .inr ⟨rfl, ⟨j, _, hj, hz⟩, sput_same ..⟩
        · rw [sput_ne _ _ _ _ (by omega)]
          rcases W1 x s with h | ⟨rfl, h2, h3⟩
          · exact .inl h
          · exact .inr ⟨rfl, h2, by rw [sput_ne _ _ _ _ (by omega)]; exact h3⟩
      · by_cases e : x = z ∧ s = 1
        · obtain ⟨rfl, rfl⟩ := e
          exact .inr ⟨rfl, by rw [sput_same]; simp⟩
        · exact .inl (sput_ne _ _ _ _ (by omega))
end
end Go.Proofs.YtaacaokocamlcaaDoor.E
