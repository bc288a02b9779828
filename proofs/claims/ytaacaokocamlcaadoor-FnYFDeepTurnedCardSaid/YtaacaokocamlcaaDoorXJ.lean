/-
  A key put in: the links to its neighbours, the walks up.
-/
import Derived.Test.YtaacaokocamlcaaDoorXG
namespace Go.Proofs.YtaacaokocamlcaaDoor.E
open Go
set_option linter.unusedSimpArgs false
set_option linter.unusedVariables false
set_option maxRecDepth 100000
set_option maxHeartbeats 8000000

structure Lnk (c c2 : Nd) (y : Nat) (pv sv : Option Nat) : Prop where
  y0 : c2 y 0 = pv
  y1 : c2 y 1 = sv
  s0 : ∀ s, sv = some s → c2 s 0 = some y
  p1 : ∀ p, pv = some p → c2 p 1 = some y
  o : ∀ x s, x ≠ y → c2 x s = c x s ∨ c2 x s = some y
structure Wlk (B : Nat) (N c c5 : Nd) (y key i0 : Nat) (pv sv : Option Nat) : Prop where
  lf : ∀ q l s, N B q = some l → c5 l s = c l s
  old : ∀ i p x s, 0 < i → i < B → N i p = some x → (i ≤ i0 ∨ p ≠ pre B i key) → c5 x s = c x s ∨ c5 x s = some y
  ws : ∀ l q j z, sv = some l → N B q = some l → j < B → pre B j q ≠ pre B j key → N j (pre B j q) = some z → c5 z 0 ≠ none
  wp : ∀ l q j z, pv = some l → N B q = some l → j < B → pre B j q ≠ pre B j key → N j (pre B j q) = some z → c5 z 1 ≠ none
  nw : ∀ j z, i0 < j → j < B → N j (pre B j key) = some z → (c5 z 1 = none → sv = none) ∧ (c5 z 0 = none → pv = none)
/-- The neighbour below, by the links. -/
def pvOf (c : Nd) (pv0 : Option Nat) : Option Nat → Option Nat | some s => c s 0 | none => pv0
/-- The code behind the walks. -/
def F42_Y (k : Value → W) (xft_156 : Option Addr) (key_157 : Int) (n_158 : Option Addr) : W :=
 NN xft_156 fun a162 =>
 LoadT .ptr (a162.add 6) fun p163 =>
 BIf p163.isNone (
  F42_J13 k xft_156 key_157 n_158 true) (
  NN xft_156 fun a183 =>
  LoadT .ptr (a183.add 6) fun p184 =>
  NN p184 fun a185 =>
  LoadT .any a185 fun v186 =>
  NextT Go.Proofs.Tryd.prog (callMethod v186 "Key" [].toArray) (.s (.one (.int .u64))) fun x187 =>
  F42_J13 k xft_156 key_157 n_158 (decide (key_157 > x187)))
section
variable {w : World} {B : Nat} {N c : Nd} {pa : Nat → Option Nat} {en : Nat → Value} {mn mx : Option Nat}
/-- A leaf's side is written. -/
theorem put_side {x s q : Nat} {v : Option Nat} {K : W} (H : Nds w B N c pa en) (T : T0 B N c mn mx) (hx : N B q = some x) (hs : s < 2) (hv : ∀ l, v = some l → Lf B N mn mx s l) (hm : s = 0 → mn = some q → v = none)
    (hk : ∀ w2, Nds w2 B N (sput c x s v) pa en → T0 B N (sput c x s v) mn mx → Fr (fun b => b = x) w w2 → K w2) : Store1 (((⟨x, 0, none⟩ : Addr).add 1).add s) (pO v) K w := by
  rw [add_mk, add_mk]
  have e : 0 + 1 + s = s + 1 := by omega
  rw [e]
  exact store_intro (i := s + 1) (H.nd hx) (by simp; omega) rfl fun w2 b2 f2 z2 => hk w2 (H.put hx hs b2 f2) (T.wrL hx hs hv hm) f2
theorem F42_X_spec {k : Value → W} {xft root : Option Addr} {y key : Nat} {pv0 pv sv : Option Nat} (H : Nds w B N c pa en) (T : T0 B N c mn mx) (hy : N B key = some y) (hy0 : c y 0 = none) (hy1 : c y 1 = none)
    (hs : ∀ s, sv = some s → ∃ q, N B q = some s ∧ mn ≠ some q ∧ q ≠ key) (hp : ∀ p, pv = some p → ∃ q, N B q = some p ∧ mx ≠ some q ∧ q ≠ key) (hsx : sv ≠ none → mx ≠ some key) (hpn : pv ≠ none → mn ≠ some key)
    (hpv : pv = pvOf c pv0 sv)
    (hk : ∀ c2 w2, Nds w2 B N c2 pa en → T0 B N c2 mn mx → Lnk c c2 y pv sv → Fr (fun b => ∃ i p, N i p = some b) w w2 → F42_J10 k xft (key : Nat) (some ⟨y, 0, none⟩) (oA pv) (oA sv) root w2) :
    F42_X k xft (key : Nat) (some ⟨y, 0, none⟩) (oA pv0) (oA sv) root w := by
  have ny : ∀ {q x}, N B q = some x → q ≠ key → x ≠ y := fun h hne e => by
    rw [e] at h; exact hne (T.inj h hy).2
  have fy : ∀ {q x} {w1 w2 : World}, N B q = some x → Fr (fun b => b = x) w1 w2 → Fr (fun b => ∃ i p, N i p = some b) w1 w2 := fun {q x w1 w2} h f => f.mono fun b e => .inl ⟨B, q, (show b = x from e) ▸ h⟩
  unfold F42_X
  cases sv with
  | none =>
    obtain rfl : pv = pv0 := hpv
    simp only [oA_none, Option.isNone_none, Bool.not_true, BIf_false]
    cases pv with
    | none =>
      simp only [oA_none, Option.isNone_none, Bool.not_true, BIf_false]
      exact hk c w H T ⟨hy0, hy1, (fun s h => by cases h), (fun s h => by cases h), fun x s _ => .inl rfl⟩ (Fr.refl _ _)
    | some p =>
      obtain ⟨q, hq, hq1, hq2⟩ := hp p rfl
      have hpy := ny hq hq2
      simp only [oA_some, Option.isNone_some, Bool.not_false, BIf_true, NN_mk]
      refine ⟨by decide, put_side (v := some p) (s := 0) H T hy (by decide) (fun l e => ?_) (fun _ e => absurd e (hpn (by simp))) fun w2 H2 T2 f2 => ?_⟩
      · cases e; exact ⟨q, hq, fun _ => hq1, fun e => by cases e⟩
      refine ⟨by decide, put_side (v := some y) (s := 1) H2 T2 hq (by decide) (fun l e => ?_) (fun e => by cases e) fun w3 H3 T3 f3 => ?_⟩
      · cases e; exact ⟨key, hy, (fun e => by cases e), fun _ => hpn (by simp)⟩
      refine hk _ w3 H3 T3 ⟨?_, ?_, (fun s h => by cases h), fun p' h => ?_, fun x s hx => ?_⟩ ((fy hy f2).trans (fy hq f3) fun b h => .inl h)
      · rw [sput_ne _ _ _ _ (.inl hpy.symm), sput_same]
      · rw [sput_ne _ _ _ _ (.inl hpy.symm), sput_ne _ _ _ _ (.inr (by decide))]; exact hy1
      · cases h; rw [sput_same]
      · by_cases e : x = p ∧ s = 1
        · obtain ⟨rfl, rfl⟩ := e; exact .inr (sput_same ..)
        · rw [sput_ne _ _ _ _ (by omega), sput_ne _ _ _ _ (.inl hx)]; exact .inl rfl
  | some s =>
    obtain ⟨qs, hqs, hqs1, hqs2⟩ := hs s rfl
    have hsy := ny hqs hqs2
    have hmxk := hsx (by simp)
    have hpv : pv = c s 0 := hpv
    simp only [oA_some, Option.isNone_some, Bool.not_false, BIf_true, NN_mk]
    refine ⟨by decide, load_pO (p := c s 0) (i := 1) (H.nd hqs) rfl ?_⟩
    rw [← hpv]
    -- the last two links
    have last : ∀ c1 w1, Nds w1 B N c1 pa en → T0 B N c1 mn mx → c1 y 0 = pv → (∀ p, pv = some p → c1 p 1 = some y) → (∀ x s, x ≠ y → c1 x s = c x s ∨ c1 x s = some y) → Fr (fun b => ∃ i p, N i p = some b) w w1 → F42_J9 k xft (key : Nat) (some ⟨y, 0, none⟩) (oA pv) (some ⟨s, 0, none⟩) root w1 := fun c1 w1 H1 T1 h0 hp1 ho f1 => by
      unfold F42_J9
      simp only [NN_mk]
      refine ⟨by decide, put_side (v := some s) (s := 1) H1 T1 hy (by decide) (fun l e => ?_) (fun e => by cases e) fun w2 H2 T2 f2 => ?_⟩
      · cases e; exact ⟨qs, hqs, (fun e => by cases e), fun _ => hqs1⟩
      refine ⟨by decide, put_side (v := some y) (s := 0) H2 T2 hqs (by decide) (fun l e => ?_) (fun _ e => absurd e hqs1) fun w3 H3 T3 f3 => ?_⟩
      · cases e; exact ⟨key, hy, fun _ => hmxk, fun e => by cases e⟩
      refine hk _ w3 H3 T3 ⟨?_, ?_, fun s' h => ?_, fun p h => ?_, fun x s' hx => ?_⟩ ((f1.trans (fy hy f2) fun b h => .inl h).trans (fy hqs f3) fun b h => .inl h)
      · rw [sput_ne _ _ _ _ (.inl hsy.symm), sput_ne _ _ _ _ (.inr (by decide))]; exact h0
      · rw [sput_ne _ _ _ _ (.inl hsy.symm), sput_same]
      · cases h; rw [sput_same]
      · obtain ⟨q, hq, hq1, hq2⟩ := hp p h
        rw [sput_ne _ _ _ _ (.inr (by decide)), sput_ne _ _ _ _ (.inl (ny hq hq2))]; exact hp1 p h
      · by_cases e : x = s ∧ s' = 0
        · obtain ⟨rfl, rfl⟩ := e; exact .inr (sput_same ..)
        · rw [sput_ne _ _ _ _ (by omega), sput_ne _ _ _ _ (.inl hx)]; exact ho x s' hx
    cases hpp : pv with
    | none =>
      simp only [oA_none, Option.isNone_none, Bool.not_true, BIf_false]
      rw [hpp] at last
      exact last c w H T hy0 (fun p h => by cases h) (fun x s _ => .inl rfl) (Fr.refl _ _)
    | some p =>
      obtain ⟨q, hq, hq1, hq2⟩ := hp p hpp
      have hpy := ny hq hq2
      have hmnk := hpn (by rw [hpp]; simp)
      simp only [oA_some, Option.isNone_some, Bool.not_false, BIf_true, NN_mk]
      refine ⟨by decide, put_side (v := some y) (s := 1) H T hq (by decide) (fun l e => ?_) (fun e => by cases e) fun w2 H2 T2 f2 => ?_⟩
      · cases e; exact ⟨key, hy, (fun e => by cases e), fun _ => hmnk⟩
      refine ⟨by decide, put_side (v := some p) (s := 0) H2 T2 hy (by decide) (fun l e => ?_) (fun _ e => absurd e hmnk) fun w3 H3 T3 f3 => ?_⟩
      · cases e; exact ⟨q, hq, fun _ => hq1, fun e => by cases e⟩
      rw [hpp] at last
      refine last _ w3 H3 T3 (sput_same ..) (fun p' h => ?_) (fun x s' hx => ?_) ((fy hq f2).trans (fy hy f3) fun b h => .inl h)
      · cases h; rw [sput_ne _ _ _ _ (.inl hpy), sput_same]
      · rw [sput_ne _ _ _ _ (.inl hx)]
        by_cases e : x = p ∧ s' = 1
        · obtain ⟨rfl, rfl⟩ := e; exact .inr (sput_same ..)
        · rw [sput_ne _ _ _ _ (by omega)]; exact .inl rfl
/-- The walks. -/
theorem F42_J10_spec {k : Value → W} {xft : Option Addr} {y key i0 x0 : Nat} {pv sv : Option Nat} (H : Nds w B N c pa en) (T : T0 B N c mn mx) (hB2 : 1 < B) (hi0 : i0 < B) (hy : N B key = some y) (hx0 : N i0 (pre B i0 key) = some x0)
    (hs : ∀ s, sv = some s → ∃ q, N B q = some s ∧ mn ≠ some q ∧ q ≠ key) (hp : ∀ p, pv = some p → ∃ q, N B q = some p ∧ mx ≠ some q ∧ q ≠ key) (hsx : sv ≠ none → mx ≠ some key) (hpn : pv ≠ none → mn ≠ some key)
    (hsl : i0 + 1 < B → ∀ z s t, N (B - 1) (pre B (B - 1) key) = some z → s < 2 → N B (2 * pre B (B - 1) key + s) = some t → c z s = some y)
    (hk : ∀ c5 w5, Nds w5 B N c5 pa en → T0 B N c5 mn mx → Wlk B N c c5 y key i0 pv sv → Fr (fun b => ∃ i p, N i p = some b) w w5 → F42_Y k xft (key : Nat) (some ⟨y, 0, none⟩) w5) :
    F42_J10 k xft (key : Nat) (some ⟨y, 0, none⟩) (oA pv) (oA sv) (oA (if i0 = 0 then none else some x0)) w := by
  have lfs : ∀ l, sv = some l → Lf B N mn mx 1 l := fun l h => by
    obtain ⟨q, h1, h2, _⟩ := hs l h
    exact ⟨q, h1, (fun e => by cases e), fun _ => h2⟩
  have lfp : ∀ l, pv = some l → Lf B N mn mx 0 l := fun l h => by
    obtain ⟨q, h1, h2, _⟩ := hp l h
    exact ⟨q, h1, fun _ => h2, fun e => by cases e⟩
  have hroot : ∀ z, (if i0 = 0 then none else some x0) = some z → ∃ i, i < B ∧ N i (pre B i key) = some z := fun z h => by
    split at h
    · cases h
    · cases h; exact ⟨i0, hi0, hx0⟩
  have j12 : ∀ c4 w4, Nds w4 B N c4 pa en → T0 B N c4 mn mx → (∀ x s, c4 x s = c x s ∨ (In B N x ∧ c4 x s = some y)) →
      (∀ l q j z, sv = some l → N B q = some l → j < B → pre B j q ≠ pre B j key → N j (pre B j q) = some z → c4 z 0 ≠ none) → (∀ l q j z, pv = some l → N B q = some l → j < B → pre B j q ≠ pre B j key → N j (pre B j q) = some z → c4 z 1 ≠ none) →
      Fr (fun b => ∃ i p, N i p = some b) w w4 → F42_J12 k xft (key : Nat) (some ⟨y, 0, none⟩) (oA pv) (oA sv) (oA (if i0 = 0 then none else some x0)) w4 := fun c4 w4 H4 T4 W4 s4 p4 f4 => by
    unfold F42_J12
    have e0 : (if i0 = 0 then none else some x0) = (if i0 = 0 then none else N i0 (pre B i0 key)) := by rw [hx0]
    rw [e0]
    refine F55_call (F55_spec H4 T4 hB2 hi0 hy lfp lfs (fun h z s t h1 h2 h3 => ?_) fun c5 w5 H5 T5 W5 n5 f5 => back0 ?_)
    · rcases W4 z s with e | ⟨_, e⟩
      · rw [e]; exact hsl h z s t h1 h2 h3
      · exact e
    have nv : ∀ {i p x}, N i p = some x → (i ≤ i0 ∧ 0 < i ∨ p ≠ pre B i key) → ¬ Vis N B i0 key x := fun {i p x} h h2 ⟨j, hj, hjB, hjx⟩ => by
      obtain ⟨rfl, rfl⟩ := T4.inj h hjx
      rcases h2 with h2 | h2
      · omega
      · exact h2 rfl
    have same : ∀ {i p x s}, N i p = some x → (i ≤ i0 ∧ 0 < i ∨ p ≠ pre B i key) → c5 x s = c4 x s := fun {i p x s} h h2 => (W5 x s).resolve_right fun h3 => nv h h2 h3.1
    refine hk c5 w5 H5 T5 ⟨fun q l s h => ?_, fun i p x s h0 hi h h2 => ?_, fun l q j z h h2 h3 h4 h5 => ?_, fun l q j z h h2 h3 h4 h5 => ?_, n5⟩ (f4.trans f5 fun b h => .inl h)
    · have e1 : c5 l s = c4 l s := (W5 l s).resolve_right fun ⟨⟨j, _, hjB, hjx⟩, _⟩ => T4.notIn h ⟨j, _, hjB, hjx⟩
      rw [e1]
      exact (W4 l s).resolve_right fun h3 => T4.notIn h h3.1
    · rw [same h (by rcases h2 with h2 | h2; exact .inl ⟨h2, h0⟩; exact .inr h2)]
      exact (W4 x s).imp id fun h => h.2
    · rw [same h5 (.inr h4)]; exact s4 l q j z h h2 h3 h4 h5
    · rw [same h5 (.inr h4)]; exact p4 l q j z h h2 h3 h4 h5
  have j11 : ∀ c3 w3, Nds w3 B N c3 pa en → T0 B N c3 mn mx → (∀ x s, c3 x s = c x s ∨ (In B N x ∧ c3 x s = some y)) →
      (∀ l q j z, sv = some l → N B q = some l → j < B → pre B j q ≠ pre B j key → N j (pre B j q) = some z → c3 z 0 ≠ none) →
      Fr (fun b => ∃ i p, N i p = some b) w w3 → F42_J11 k xft (key : Nat) (some ⟨y, 0, none⟩) (oA pv) (oA sv) (oA (if i0 = 0 then none else some x0)) w3 := fun c3 w3 H3 T3 W3 s3 f3 => by
    unfold F42_J11
    cases hpv : pv with
    | none =>
      simp only [oA_none, Option.isNone_none, Bool.not_true, BIf_false]
      have := j12 c3 w3 H3 T3 W3 s3 (fun l q j z h => by rw [hpv] at h; cases h) f3
      rw [hpv] at this; exact this
    | some p =>
      obtain ⟨q, hq, _, _⟩ := hp p hpv
      have hl : Lf B N mn mx 1 y := ⟨key, hy, (fun e => by cases e), fun _ => hpn (by rw [hpv]; simp)⟩
      simp only [oA_some, Option.isNone_some, Bool.not_false, BIf_true]
      refine F54_call (F54_spec H3 T3 hq hl hroot fun c4 w4 H4 T4 W4 v4 f4 => back0 ?_)
      have := j12 c4 w4 H4 T4 (fun x s => ?_) (fun l q j z h h2 h3 h4 h5 => ?_) (fun l q' j z h h2 h3 h4 h5 => ?_) (f3.trans f4 fun b h => .inl h)
      · rw [hpv] at this; exact this
      · rcases W4 x s with e | ⟨rfl, h1, h2⟩
        · rw [e]; exact W3 x s
        · exact .inr ⟨h1, h2⟩
      · have e : c4 z 0 = c3 z 0 := (W4 z 0).resolve_right fun h => by cases h.1
        rw [e]; exact s3 l q j z h h2 h3 h4 h5
      · rw [hpv] at h; cases h
        obtain ⟨_, rfl⟩ := T.inj h2 hq
        exact v4 j z h3 h4 h5
  unfold F42_J10
  cases hsv : sv with
  | none =>
    simp only [oA_none, Option.isNone_none, Bool.not_true, BIf_false]
    have := j11 c w H T (fun x s => .inl rfl) (fun l q j z h => by rw [hsv] at h; cases h) (Fr.refl _ _)
    rw [hsv] at this; exact this
  | some s =>
    obtain ⟨q, hq, _, _⟩ := hs s hsv
    have hl : Lf B N mn mx 0 y := ⟨key, hy, (fun _ => hsx (by rw [hsv]; simp)), fun e => by cases e⟩
    simp only [oA_some, Option.isNone_some, Bool.not_false, BIf_true]
    refine F53_call (F53_spec H T hq hl hroot fun c3 w3 H3 T3 W3 v3 f3 => back0 ?_)
    have := j11 c3 w3 H3 T3 (fun x s => ?_) (fun l q' j z h h2 h3 h4 h5 => ?_) f3
    · rw [hsv] at this; exact this
    · rcases W3 x s with e | ⟨rfl, h1, h2⟩
      · exact .inl e
      · exact .inr ⟨h1, h2⟩
    · rw [hsv] at h; cases h
      obtain ⟨_, rfl⟩ := T.inj h2 hq
      exact v3 j z h3 h4 h5
end
end Go.Proofs.YtaacaokocamlcaaDoor.E

namespace Go.Proofs.YtaacaokocamlcaaDoor.E
open Go
set_option linter.unusedSimpArgs false
set_option linter.unusedVariables false
set_option maxRecDepth 100000
set_option maxHeartbeats 8000000

section
variable {w : World} {a ls B : Nat} {mm : Nat → Nat} {N c : Nd} {pa : Nat → Option Nat} {en : Nat → Value} {mn mx : Option Nat} {num : Nat}
theorem F42_Y_spec {k : Value → W} {N0 : Nd} {key y : Nat} {v0 v1 v2 v3 v4 : Value} (hB : Blk w a 82 [v0, v1, v2, v3, v4, pO (lfo N0 B mn), pO (lfo N0 B mx)]) (H : Nds w B N c pa en) (hy : N B key = some y) (hsub : ∀ q x, N0 B q = some x → N B q = some x)
    (hmn : ∀ q, mn = some q → ∃ x, N0 B q = some x) (hmx : ∀ q, mx = some q → ∃ x, N0 B q = some x) (hmm : mn = none ↔ mx = none)
    (hk : ∀ w', Blk w' a 82 [v0, v1, v2, v3, v4, pO (lfo N B (some (lo mn key))), pO (lfo N B (some (hi mx key)))] → Fr (fun b => b = a) w w' → k (.tuple #[]) w') : F42_Y k (some ⟨a, 0, none⟩) (key : Nat) (some ⟨y, 0, none⟩) w := by
  have na : ∀ {i p x}, N i p = some x → ¬ x = a := fun {i p x} h e => by
    have := H.nd h
    rw [e] at this
    exact absurd (this.unique hB).1 (by decide)
  have keyof : ∀ {w1 : World} {q x : Nat}, Fr (fun b => b = a) w w1 → N B q = some x → Blk w1 x 91 [en x, pO (c x 0), pO (c x 1), pO (pa x)] ∧ KP w1 (en x) q := fun {w1 q x} f h => by
    refine ⟨(H.nd h).fr f (na h), (H.eB h).fr f fun b us hb e => ?_⟩
    have e : b = a := e
    subst e
    exact absurd (hb.unique hB).1 (by decide)
  -- the least
  have j14 : ∀ w1, Blk w1 a 82 [v0, v1, v2, v3, v4, pO (lfo N0 B mn), pO (lfo N B (some (hi mx key)))] → Fr (fun b => b = a) w w1 → F42_J14 k (some ⟨a, 0, none⟩) (key : Nat) (some ⟨y, 0, none⟩) w1 := fun w1 b1 f1 => by
    unfold F42_J14
    simp only [NN_mk]
    refine load_pO (p := lfo N0 B mn) (i := 5) b1 rfl ?_
    have st : ∀ w2, Blk w2 a 82 [v0, v1, v2, v3, v4, pO (lfo N0 B mn), pO (lfo N B (some (hi mx key)))] → lo mn key = key → Fr (fun b => b = a) w w2 → F42_J15 k (some ⟨a, 0, none⟩) (some ⟨y, 0, none⟩) true w2 := fun w2 b2 h f2 => by
      unfold F42_J15
      simp only [BIf_true, NN_mk]
      refine store_intro (i := 5) b2 (by simp) rfl fun w3 b3 f3 z3 => hk w3 ?_ (f2.trans f3 fun b h => .inl h)
      have e : lfo N B (some (lo mn key)) = some y := by rw [h]; exact hy
      rw [e]; exact b3
    cases hm : mn with
    | none =>
      simp only [lfo, Option.bind_none, oA_none, Option.isNone_none, BIf_true]
      exact st w1 b1 (by rw [hm]; rfl) f1
    | some q =>
      obtain ⟨x, hx⟩ := hmn q hm
      have hl : lfo N0 B (some q) = some x := hx
      rw [hl]
      simp only [oA_some, Option.isNone_some, BIf_false]
      refine load_pO (p := lfo N0 B mn) (i := 5) b1 rfl ?_
      rw [hm, hl]
      simp only [oA_some, NN_mk]
      obtain ⟨bx, kx⟩ := keyof f1 (hsub _ _ hx)
      refine load_any (i := 0) bx rfl ?_
      refine key_intro kx fun w2 f2 => ?_
      have b2 := b1.fr f2 id
      have f02 := f1.trans f2 fun _ h => h.elim
      by_cases hlt : key < q
      · rw [decide_eq_true (by omega)]
        exact st w2 b2 (by rw [hm]; exact if_pos hlt) f02
      · rw [decide_eq_false (by omega)]
        unfold F42_J15
        simp only [BIf_false]
        refine hk w2 ?_ f02
        have e : lfo N B (some (lo mn key)) = lfo N0 B mn := by
          rw [hm]; unfold lo
          show lfo N B (some (if key < q then key else q)) = _
          rw [if_neg hlt, hl]; exact hsub _ _ hx
        rw [e]; exact b2
  have j13 : ∀ w1, Blk w1 a 82 [v0, v1, v2, v3, v4, pO (lfo N0 B mn), pO (lfo N0 B mx)] → hi mx key = key → Fr (fun b => b = a) w w1 → F42_J13 k (some ⟨a, 0, none⟩) (key : Nat) (some ⟨y, 0, none⟩) true w1 := fun w1 b1 h f1 => by
    unfold F42_J13
    simp only [BIf_true, NN_mk]
    refine store_intro (i := 6) b1 (by simp) rfl fun w3 b3 f3 z3 => j14 w3 ?_ (f1.trans f3 fun b h => .inl h)
    have e : lfo N B (some (hi mx key)) = some y := by rw [h]; exact hy
    rw [e]; exact b3
  unfold F42_Y
  simp only [NN_mk]
  refine load_pO (p := lfo N0 B mx) (i := 6) hB rfl ?_
  cases hm : mx with
  | none =>
    simp only [lfo, Option.bind_none, oA_none, Option.isNone_none, BIf_true]
    exact j13 w hB (by rw [hm]; rfl) (Fr.refl _ _)
  | some q =>
    obtain ⟨x, hx⟩ := hmx q hm
    have hl : lfo N0 B (some q) = some x := hx
    rw [hl]
    simp only [oA_some, Option.isNone_some, BIf_false]
    refine load_pO (p := lfo N0 B mx) (i := 6) hB rfl ?_
    rw [hm, hl]
    simp only [oA_some, NN_mk]
    obtain ⟨bx, kx⟩ := keyof (Fr.refl _ w) (hsub _ _ hx)
    refine load_any (i := 0) bx rfl ?_
    refine key_intro kx fun w2 f2 => ?_
    have b2 := hB.fr f2 id
    have f02 : Fr (fun b => b = a) w w2 := f2.mono fun _ h => h.elim
    by_cases hlt : q < key
    · rw [decide_eq_true (by omega)]
      exact j13 w2 b2 (by rw [hm]; exact if_pos hlt) f02
    · rw [decide_eq_false (by omega)]
      unfold F42_J13
      simp only [BIf_false]
      refine j14 w2 ?_ f02
      have e : lfo N B (some (hi mx key)) = lfo N0 B mx := by
        rw [hm]; unfold hi
        show lfo N B (some (if q < key then key else q)) = _
        rw [if_neg hlt, hl]; exact hsub _ _ hx
      rw [e]; exact b2
/-- What insert leaves. -/
def Ins (w w' : World) (a ls B : Nat) (mm : Nat → Nat) (N : Nd) (en : Nat → Value) (mn mx : Option Nat) (num key : Nat) (e : Value) : Prop :=
  ∃ N' c' pa' en', XH w' a ls B mm N' c' pa' en' (some (lo mn key)) (some (hi mx key)) (num + if N B key = none then 1 else 0) ∧ T0 B N' c' (some (lo mn key)) (some (hi mx key)) ∧ Nl B N' c' (some (lo mn key)) (some (hi mx key)) ∧ (∀ q, (N' B q).map en' = if q = key then some e else (N B q).map en) ∧
    (∀ b, XS a B mm N' b → XS a B mm N b ∨ w.heap.size ≤ b) ∧ Fr (XS a B mm N) w w' ∧ Tabs w'
/-- A new key, its neighbours known. -/
theorem F42_J4_spec {k : Value → W} {key : Nat} {e : Value} {pv0 pv sv : Option Nat} (Ta : Tabs w) (H : XH w a ls B mm N c pa en mn mx num) (T : T0 B N c mn mx) (M : Nl B N c mn mx) (hB2 : 1 < B) (hlow : ∀ b, XS a B mm N b → 2 ≤ b) (hkey : key < 2 ^ B) (hno : N B key = none) (hnum : num < 4294967296) (he : KP w e key)
    (hs : ∀ s, sv = some s → ∃ q, N B q = some s ∧ lo mn key ≠ q) (hp : ∀ p, pv = some p → ∃ q, N B q = some p ∧ hi mx key ≠ q) (hsx : sv ≠ none → hi mx key ≠ key) (hpn : pv ≠ none → lo mn key ≠ key)
    (hpv : pv = pvOf c pv0 sv)
    (hE : mn = none → sv = none ∧ pv = none) (hL : ∀ a, mn = some a → key < a → ∃ l, N B a = some l ∧ sv = some l ∧ pv = none) (hG : ∀ b, mx = some b → b < key → ∃ l, N B b = some l ∧ pv = some l ∧ sv = none)
    (hM : ∀ a b, mn = some a → mx = some b → a < key → key < b → sv ≠ none ∧ pv ≠ none)
    (hk : ∀ w', Ins w w' a ls B mm N en mn mx num key e → k (.tuple #[]) w') : F42_J4 k (some ⟨a, 0, none⟩) e (key : Nat) (oA pv0) (oA sv) w := by
  have hB64 := H.la.b64
  have hlsz := H.la.ly.lt
  unfold F42_J4
  simp only [NN_mk]
  refine load_slice (i := 0) H.hd rfl ?_
  refine F51_call (F51_spec Ta H.la T hkey hno fun i0 x0 w1 hi0 hx0 hn f1 => back_ip ?_)
  have H1 := H.fr0 f1
  have Ta1 := Ta.fr f1 id id
  have he1 := he.fr0 f1
  -- the loop and what is behind it
  have main : ∀ r, r = oA (if i0 = 0 then none else some x0) → Loop [.ptr, .any, (.int .u64), .ptr, .ptr, .ptr, .ptr, (.int .u8)] (F42_L1 k) (some ⟨a, 0, none⟩) e (key : Nat) (some ⟨x0, 0, none⟩) (oA pv0) (oA sv) r ((i0 : Nat) : Int) w1 := fun r hr => by
    refine F42_loop Ta1 H1 T hlow hkey hi0 hx0 hn hnum he1 fun ys c1 pi ei w2 Cr Md => ?_
    have T' := Md.t0 T
    have G : ∀ {j q z}, E.grow B N key i0 ys j q = some z ↔ (i0 < j ∧ j ≤ B ∧ q = pre B j key ∧ z = ys j) ∨ N j q = some z := Md.grow T
    have hy := Md.leaf T
    have hsub : ∀ {j q z}, N j q = some z → E.grow B N key i0 ys j q = some z := fun h => G.2 (.inr h)
    have nek : ∀ {q l}, N B q = some l → q ≠ key := fun h e => by rw [e, hno] at h; cases h
    have hx0' : E.grow B N key i0 ys i0 (pre B i0 key) = some x0 := hsub hx0
    have lfc : ∀ {q l s}, N B q = some l → c1 l s = c l s := fun {q l s} h => Md.co h (.inl fun e => by subst e; have := (T.inj h Md.hx).1; omega)
    have hs' : ∀ s, sv = some s → ∃ q, E.grow B N key i0 ys B q = some s ∧ some (lo mn key) ≠ some q ∧ q ≠ key := fun s h => by
      obtain ⟨q, h1, h2⟩ := hs s h
      exact ⟨q, hsub h1, fun e => h2 (Option.some.inj e), nek h1⟩
    have hp' : ∀ s, pv = some s → ∃ q, E.grow B N key i0 ys B q = some s ∧ some (hi mx key) ≠ some q ∧ q ≠ key := fun s h => by
      obtain ⟨q, h1, h2⟩ := hp s h
      exact ⟨q, hsub h1, fun e => h2 (Option.some.inj e), nek h1⟩
    have hsx' : sv ≠ none → some (hi mx key) ≠ some key := fun h e => hsx h (Option.some.inj e)
    have hpn' : pv ≠ none → some (lo mn key) ≠ some key := fun h e => hpn h (Option.some.inj e)
    have hpv' : pv = pvOf c1 pv0 sv := by
      rw [hpv]
      cases hsv : sv with
      | none => rfl
      | some s =>
        obtain ⟨q, h1, _⟩ := hs s hsv
        exact (lfc h1).symm
    have nds2 : Nds w2 B (E.grow B N key i0 ys) c1 pi ei := Cr.nd
    refine F42_X_spec nds2 T' hy (Md.cl (by decide)) (Md.cl (by decide)) hs' hp' hsx' hpn' hpv' fun c2 w3 H3 T3 K3 f3 => ?_
    rw [hr]
    refine F42_J10_spec H3 T3 hB2 hi0 hy hx0' hs' hp' hsx' hpn' (fun h z s t h1 h2 h3 => ?_) fun c5 w4 H4 T4 K4 f4 => ?_
    · -- the last inner node's side
      have hz : z = ys (B - 1) := by
        rcases G.1 h1 with h4 | h4
        · exact h4.2.2.2
        · rw [Md.none T (by omega) (by omega)] at h4; cases h4
      have hzy : z ≠ ys B := fun e => by
        have := Md.yi (i := B - 1) (j := B) (by omega) (by omega) hi0 (Nat.le_refl _) (by rw [← hz]; exact e)
        omega
      rcases K3.o z s hzy with e | e
      · rw [e, hz]
        rcases G.1 h3 with ⟨_, _, h5, _⟩ | h5
        · have hpb := pre_bit (B := B) (k := key) (i := B - 1) (by omega)
          rw [show B - 1 + 1 = B by omega] at hpb
          have : s = bit B (B - 1) key := by omega
          rw [this]
          have := Md.cn (j := B - 1) (by omega) (by omega)
          rw [show B - 1 + 1 = B by omega] at this
          exact this
        · obtain ⟨b, hb⟩ : ∃ b, B = b + 1 := ⟨B - 1, by omega⟩
          have h5' : N (b + 1) (2 * pre B (B - 1) key + s) = some t := by rw [← hb]; exact h5
          obtain ⟨z', hz'⟩ := T.clo h5'
          rw [show (2 * pre B (B - 1) key + s) / 2 = pre B (B - 1) key by omega, show b = B - 1 by omega, Md.none T (by omega) (by omega)] at hz'
          cases hz'
      · exact e
    -- the least and the greatest
    have hnX : ∀ {b}, (∃ i p, E.grow B N key i0 ys i p = some b) → XS a B mm N b ∨ w1.heap.size ≤ b := fun {b} ⟨i, p, h⟩ => by
      rcases G.1 h with ⟨h1, h2, _, rfl⟩ | h
      · exact .inr (Cr.yn i h1 h2)
      · exact .inl (.inr (.inr ⟨i, p, h⟩))
    have f24 : Fr (fun b => ∃ i p, E.grow B N key i0 ys i p = some b) w2 w4 := f3.trans f4 fun b h => .inl h
    have nodea : ¬ ∃ i p, E.grow B N key i0 ys i p = some a := fun ⟨i, p, h⟩ => by
      exact absurd ((nds2.nd h).unique Cr.hd).1 (by decide)
    have hd4 := Cr.hd.fr f24 nodea
    rw [if_pos rfl] at hd4
    refine F42_Y_spec hd4 H4 hy (fun q x h => hsub h) (fun q h => (T.mn1 h).1) (fun q h => (T.mx1 h).1) ?_ fun w5 b5 f5 => ?_
    · constructor
      · intro h
        cases hm : mx with
        | none => rfl
        | some b => obtain ⟨⟨x, hx⟩, _⟩ := T.mx1 hm; rw [T.mn0 h] at hx; cases hx
      · intro h
        cases hm : mn with
        | none => rfl
        | some b => obtain ⟨⟨x, hx⟩, _⟩ := T.mn1 hm; rw [T.mx0 h] at hx; cases hx
    have f45a : ∀ {i p x}, E.grow B N key i0 ys i p = some x → ¬ x = a := fun {i p x} h e => nodea ⟨i, p, e ▸ h⟩
    have H5 : Nds w5 B (E.grow B N key i0 ys) c5 pi ei := H4.fr f5 fun b us t hb ht e => by
      have e : b = a := e
      subst e
      have := (hb.unique hd4).1
      rcases ht with rfl | rfl <;> exact absurd this (by decide)
    have la5 : Lay w5 ls B mm (E.grow B N key i0 ys) := by
      have l2 : Lay w2 ls B mm (E.grow B N key i0 ys) := Cr.la
      have l4 := l2.fr f24 (fun ⟨i, p, h⟩ => by exact absurd ((nds2.nd h).unique l2.ly).1 (by decide)) fun i hi ⟨j, p, h⟩ => by
        obtain ⟨l, hM', _⟩ := l2.mp i hi
        exact hM'.not_blk (nds2.nd h) rfl
      refine l4.fr f5 (fun e => ?_) fun i hi e => ?_
      · have e : ls = a := e
        rw [← e] at hd4
        exact absurd (hd4.unique l4.ly).1 (by decide)
      · obtain ⟨l, hM', _⟩ := l4.mp i hi
        exact hM'.not_blk hd4 e
    have hnone : (if N B key = none then 1 else 0) = 1 := if_pos hno
    have root0 : E.grow B N key i0 ys 0 0 = N 0 0 := by unfold E.grow; rw [if_neg (by omega)]
    have fw : Fr (XS a B mm N) w w5 := by
      have a1 : Fr (XS a B mm N) w w2 := (f1.mono (S' := XS a B mm N) fun _ h => h.elim).trans Cr.fr fun b h => .inl h
      have hsz := f1.size
      have a2 : Fr (XS a B mm N) w w4 := a1.trans f24 fun b h => (hnX h).imp id fun h => by omega
      exact a2.trans f5 fun b h => .inl (.inl h)
    refine hk w5 ⟨E.grow B N key i0 ys, c5, pi, ei, ⟨?_, la5, H5⟩, T4, ?_, fun q => ?_, fun b h => ?_, fw, Ta.fr fw (fun h => by have := hlow 0 h; omega) (fun h => by have := hlow 1 h; omega)⟩
    · rw [root0, hnone]; exact b5
    · refine Put.nl (c1 := c1) (mn := mn) (mx := mx) (sv := sv) (pv := pv) (k := key) (i0 := i0) (x0 := x0) (ys := ys) (N := N) (c := c) ⟨hE, hL, hG, hM, ?_, ?_, fun q l s h h2 => ?_, fun l h => ?_, fun l h => ?_, fun i p x s h0 hi h h2 => ?_, fun l q j z h h2 h3 h4 h5 => ?_, fun l q j z h h2 h3 h4 h5 => ?_, fun j h1 h2 => ?_⟩ T M Md
      · rw [K4.lf _ _ _ hy]; exact K3.y0
      · rw [K4.lf _ _ _ hy]; exact K3.y1
      · rw [K4.lf _ _ _ (hsub h)]
        have hne : l ≠ ys B := fun e => Md.fr hi0 (Nat.le_refl _) (e ▸ h)
        rcases K3.o l s hne with e | e
        · rw [e]; exact h2
        · rw [e]; simp
      · obtain ⟨q, h1, _⟩ := hs l h
        rw [K4.lf _ _ _ (hsub h1), K3.s0 l h]; simp
      · obtain ⟨q, h1, _⟩ := hp l h
        rw [K4.lf _ _ _ (hsub h1), K3.p1 l h]; simp
      · have hx' : i ≤ i0 ∨ p ≠ pre B i key := by
          rcases Nat.lt_or_ge i0 i with h3 | h3
          · exact .inr fun e => by rw [e, Md.none T h3 (by omega)] at h; cases h
          · exact .inl h3
        rcases K4.old i p x s h0 hi (hsub h) hx' with e | e
        · rw [e]
          have hne : x ≠ ys B := fun e => Md.fr hi0 (Nat.le_refl _) (e ▸ h)
          rcases K3.o x s hne with e | e
          · rw [e]; exact h2
          · rw [e]; simp
        · rw [e]; simp
      · exact K4.ws l q j z h (hsub h2) h3 h4 (hsub h5)
      · exact K4.wp l q j z h (hsub h2) h3 h4 (hsub h5)
      · exact K4.nw j (ys j) h1 h2 (G.2 (.inl ⟨h1, by omega, rfl, rfl⟩))
    · by_cases hq : q = key
      · subst hq
        rw [if_pos rfl, hy]
        show some (ei (ys B)) = some e
        rw [Cr.ee rfl]
      · rw [if_neg hq]
        cases hN : N B q with
        | none =>
          have : E.grow B N key i0 ys B q = none := by
            cases hg : E.grow B N key i0 ys B q with
            | none => rfl
            | some z =>
              rcases G.1 hg with ⟨_, _, h, _⟩ | h
              · rw [pre_all] at h; exact absurd h hq
              · rw [hN] at h; cases h
          rw [this]; rfl
        | some x =>
          rw [hsub hN]
          show some (ei x) = some (en x)
          rw [Cr.eo B q x hN]
    · rcases h with h | h | h
      · exact .inl (.inl h)
      · exact .inl (.inr (.inl h))
      · exact (hnX h).imp id fun h => by have := f1.size; omega
  by_cases h0 : i0 = 0
  · subst h0
    simp only [if_true, Option.isNone_none, BIf_true]
    refine load_pO (p := N 0 0) (i := 1) H1.hd rfl ?_
    have hr : N 0 0 = some x0 := by rw [pre_zero hkey] at hx0; exact hx0
    rw [hr]
    unfold F42_J5
    refine bind_intro ?_
    have e0 : IntKind.wrap .u8 0 = ((0 : Nat) : Int) := by decide
    rw [e0]
    exact main none rfl
  · rw [if_neg h0]
    simp only [Option.isNone_some, BIf_false]
    unfold F42_J5
    refine bind_intro ?_
    have e0 : IntKind.wrap .u8 ((i0 : Nat) : Int) = ((i0 : Nat) : Int) := wrap_u8 (by omega) (by omega)
    rw [e0]
    exact main _ (by rw [if_neg h0]; rfl)
end
end Go.Proofs.YtaacaokocamlcaaDoor.E

namespace Go.Proofs.YtaacaokocamlcaaDoor.E
open Go
set_option linter.unusedSimpArgs false
set_option linter.unusedVariables false
set_option maxRecDepth 100000
set_option maxHeartbeats 8000000

theorem lo_lt {a k : Nat} (h : k < a) : lo (some a) k = k := if_pos h
theorem lo_ge {a k : Nat} (h : a < k) : lo (some a) k = a := if_neg (by omega)
theorem hi_gt {a k : Nat} (h : a < k) : hi (some a) k = k := if_pos h
theorem hi_le {a k : Nat} (h : k < a) : hi (some a) k = a := if_neg (by omega)
section
variable {w : World} {a ls B : Nat} {mm : Nat → Nat} {N c : Nd} {pa : Nat → Option Nat} {en : Nat → Value} {mn mx : Option Nat} {num : Nat}
theorem Ins.back {w1 w2 : World} {key : Nat} {e : Value} (h : Ins w1 w2 a ls B mm N en mn mx num key e) (f : Fr (fun _ => False) w w1) : Ins w w2 a ls B mm N en mn mx num key e := by
  obtain ⟨N', c', pa', en', h1, h2, h3, h4, h5, h6, h7⟩ := h
  have := f.size
  exact ⟨N', c', pa', en', h1, h2, h3, h4, fun b hb => (h5 b hb).imp id fun h => by omega, (f.mono fun _ h => h.elim).trans h6 fun b h => .inl h, h7⟩
/-- The last layer's map, looked up. -/
theorem F42_spec {k : Value → W} {key : Nat} {e : Value} (Ta : Tabs w) (H : XH w a ls B mm N c pa en mn mx num) (T : T0 B N c mn mx) (M : Nl B N c mn mx) (hB2 : 1 < B) (hlow : ∀ b, XS a B mm N b → 2 ≤ b) (hkey : key < 2 ^ B) (hnum : num < 4294967296) (he : KP w e key)
    (hk : ∀ w', Ins w w' a ls B mm N en mn mx num key e → k (.tuple #[]) w') : F42 k (some ⟨a, 0, none⟩) e w := by
  have hB64 := H.la.b64
  have hB0 := T.b0
  unfold F42
  refine key_intro he fun w1 f1 => ?_
  refine drw_intro fun w2 f2 z2 => ?_
  have f02 := f1.trans f2 fun _ h => h.elim
  have H2 := H.fr0 f02
  have he2 := he.fr0 f02
  simp only [NN_mk]
  refine load_slice (i := 0) H2.hd rfl (load_int (i := 3) H2.hd rfl ?_)
  have e1 : subI .u8 ((B : Nat) : Int) 1 = ((B - 1 : Nat) : Int) := by
    show IntKind.wrap .u8 _ = _
    rw [wrap_u8 (by omega) (by omega)]; omega
  rw [e1]
  simp only [NN_mk, Int.toNat_natCast]
  obtain ⟨l, hM, hl⟩ := H2.leafmap hB0
  refine ⟨by omega, LoadT_map.2 ⟨_, by rw [add_mk, Nat.zero_add]; exact H2.la.map (by omega), ?_⟩⟩
  refine look_p hM (o := N B key) (hl key) ?_
  refine ⟨by show w2.cell? ⟨a, 3, none⟩ = _; rw [H2.hd.cell]; rfl, by show w2.cell? ⟨a, 0, none⟩ = _; rw [H2.hd.cell]; rfl, ?_⟩
  cases hN : N B key with
  | some x =>
    simp only [oA_some, Option.isNone_some, Bool.not_false, BIf_true, NN_mk]
    refine ⟨he2.one, store_intro (i := 0) (H2.nd.nd hN) (by simp) he2.one fun w3 b3 f3 z3 => hk w3 ?_⟩
    have nx : ∀ {b t us}, Blk w2 b t us → t ≠ 91 → ¬ b = x := fun hb ht e => by
      rw [e] at hb; exact ht (hb.unique (H2.nd.nd hN)).1
    have kx : ∀ {v q}, KP w2 v q → KP w3 v q := fun h => h.fr f3 fun b us hb e => nx hb (by decide) e
    have f03 : Fr (XS a B mm N) w w3 := (f02.mono fun _ h => h.elim).trans f3 fun b h => .inl (.inr (.inr ⟨B, key, (show b = x from h) ▸ hN⟩))
    have hlo : some (lo mn key) = mn := by
      cases hm : mn with
      | none => rw [T.mn0 hm] at hN; cases hN
      | some a0 =>
        have := (T.mn1 hm).2 hN
        unfold lo
        show some (if key < a0 then key else a0) = _
        rw [if_neg (by omega)]
    have hhi : some (hi mx key) = mx := by
      cases hm : mx with
      | none => rw [T.mx0 hm] at hN; cases hN
      | some a0 =>
        have := (T.mx1 hm).2 hN
        unfold hi
        show some (if a0 < key then key else a0) = _
        rw [if_neg (by omega)]
    unfold Ins
    rw [hlo, hhi]
    refine ⟨N, c, pa, fun z => if z = x then e else en z, ⟨by rw [if_neg (by rw [hN]; simp), Nat.add_zero]; exact H2.hd.fr f3 (nx H2.hd (by decide)), H2.la.fr f3 (nx H2.la.ly (by decide)) fun i hi e => ?_, ⟨fun {i p z} h => ?_, fun {i p z} h hi => ?_, fun {q z} h => ?_, H2.nd.p0, H2.nd.pS⟩⟩, T, M, fun q => ?_, fun b h => .inl h, f03, Ta.fr f03 (fun h => by have := hlow 0 h; omega) (fun h => by have := hlow 1 h; omega)⟩
    · obtain ⟨l', hM', _⟩ := H2.la.mp i hi
      have e : mm i = x := e
      rw [e] at hM'
      exact hM'.not_blk (H2.nd.nd hN) rfl
    · by_cases e : z = x
      · subst e; rw [if_pos rfl]; exact b3
      · rw [if_neg e]; exact (H2.nd.nd h).fr f3 e
    · have e : z ≠ x := fun e => by subst e; have := (T.inj h hN).1; omega
      rw [if_neg e]; exact H2.nd.e0 h hi
    · by_cases e : z = x
      · subst e; rw [if_pos rfl, (T.inj h hN).2]; exact kx he2
      · rw [if_neg e]; exact kx (H2.nd.eB h)
    · by_cases e : q = key
      · subst e; rw [if_pos rfl, hN]; show some (if x = x then e else en x) = _; rw [if_pos rfl]
      · rw [if_neg e]
        cases hq : N B q with
        | none => rfl
        | some z =>
          have : z ≠ x := fun e2 => by subst e2; exact e (T.inj hq hN).2
          show some (if z = x then _ else en z) = _
          rw [if_neg this]; rfl
  | none =>
    have nek : ∀ {q z}, N B q = some z → q ≠ key := fun h e => by rw [e, hN] at h; cases h
    -- what is done in the end
    have j4 : ∀ {pv0 pv sv : Option Nat} w3, Fr (fun _ => False) w w3 → (∀ s, sv = some s → ∃ q, N B q = some s ∧ lo mn key ≠ q) → (∀ p, pv = some p → ∃ q, N B q = some p ∧ hi mx key ≠ q) → (sv ≠ none → hi mx key ≠ key) → (pv ≠ none → lo mn key ≠ key) → pv = pvOf c pv0 sv →
        (mn = none → sv = none ∧ pv = none) → (∀ a, mn = some a → key < a → ∃ l, N B a = some l ∧ sv = some l ∧ pv = none) → (∀ b, mx = some b → b < key → ∃ l, N B b = some l ∧ pv = some l ∧ sv = none) → (∀ a b, mn = some a → mx = some b → a < key → key < b → sv ≠ none ∧ pv ≠ none) →
        F42_J4 k (some ⟨a, 0, none⟩) e (key : Nat) (oA pv0) (oA sv) w3 := fun {pv0 pv sv} w3 f3 g1 g2 g3 g4 g5 g6 g7 g8 g9 =>
      F42_J4_spec (Ta.fr f3 id id) (H.fr0 f3) T M hB2 hlow hkey hN hnum (he.fr0 f3) g1 g2 g3 g4 g5 g6 g7 g8 g9 fun w' h => hk w' (h.back f3)
    simp only [oA_none, Option.isNone_none, Bool.not_true, BIf_false]
    refine load_pO (p := lfo N B mn) (i := 5) H2.hd rfl ?_
    cases hm : mn with
    | none =>
      have hmx : mx = none := by
        cases hx : mx with
        | none => rfl
        | some b => obtain ⟨⟨z, hz⟩, _⟩ := T.mx1 hx; rw [T.mn0 hm] at hz; cases hz
      obtain ⟨r, hr⟩ := T.rt
      simp only [lfo, Option.bind_none, oA_none, Option.isNone_none, Bool.not_true, BIf_false]
      unfold F42_J1
      simp only [BIf_false]
      refine F49_call (F49_spec (Ta.fr f02 id id) H2 T M hkey hN (fun ka h => by rw [hm] at h; cases h) (fun w3 _ f3 => back_p ?_) fun l q ka kb w3 h => by rw [hm] at h; cases h)
      have f03 := f02.trans f3 fun _ h => h.elim
      have H3 := H.fr0 f03
      unfold F42_J2
      simp only [Option.isNone_none, BIf_true, NN_mk]
      refine load_pO (p := lfo N B mx) (i := 6) H3.hd rfl ?_
      have hl0 : lfo N B mx = none := by rw [hmx]; rfl
      rw [hl0]
      simp only [oA_none, Option.isNone_none, Bool.not_true, BIf_false]
      unfold F42_J3
      simp only [BIf_false]
      refine F50_call ?_
      unfold F50
      simp only [NN_mk]
      refine load_pO (p := N 0 0) (i := 1) H3.hd rfl ?_
      rw [hr]
      simp only [oA_some, Option.isNone_some, BIf_false]
      refine load_pO (p := lfo N B mx) (i := 6) H3.hd rfl ?_
      rw [hl0]
      simp only [oA_none, Option.isNone_none, BIf_true]
      refine back_p ?_
      exact j4 (pv0 := none) (pv := none) (sv := none) w3 f03 (fun s h => by cases h) (fun s h => by cases h) (fun h => absurd rfl h) (fun h => absurd rfl h) rfl (fun _ => ⟨rfl, rfl⟩) (fun a h => by rw [hm] at h; cases h) (fun a h => by rw [hmx] at h; cases h) (fun a b h => by rw [hm] at h; cases h)
    | some ka =>
      obtain ⟨⟨xa, hxa⟩, hmin⟩ := T.mn1 hm
      have hka := nek hxa
      cases hmx : mx with
      | none => exact absurd (T.mx0 hmx ka) (by rw [hxa]; simp)
      | some kb =>
      obtain ⟨⟨xb, hxb⟩, hmax⟩ := T.mx1 hmx
      have hkb := nek hxb
      have hab : ka ≤ kb := hmin hxb
      have hlm : lfo N B mn = some xa := by rw [hm]; exact hxa
      have hlm' : lfo N B (some ka) = some xa := hxa
      have hlx : lfo N B mx = some xb := by rw [hmx]; exact hxb
      rw [hlm']
      simp only [oA_some, Option.isNone_some, Bool.not_false, BIf_true]
      refine load_pO (p := lfo N B mn) (i := 5) H2.hd rfl ?_
      rw [hlm]
      simp only [oA_some, NN_mk]
      refine load_any (i := 0) (H2.nd.nd hxa) rfl ?_
      refine key_intro (H2.nd.eB hxa) fun w3 f3 => ?_
      have f03 := f02.trans f3 fun _ h => h.elim
      have H3 := H.fr0 f03
      unfold F42_J1
      by_cases hlt : key < ka
      · rw [decide_eq_true (by omega)]
        simp only [BIf_true, NN_mk]
        refine load_pO (p := lfo N B mn) (i := 5) H3.hd rfl ?_
        rw [hlm]
        unfold F42_J2
        simp only [oA_some, Option.isNone_some, BIf_false]
        refine j4 (pv0 := none) (pv := none) (sv := some xa) w3 f03 (fun s h => ?_) (fun s h => by cases h) (fun _ => ?_) (fun h => absurd rfl h) (T.mnc hm hxa).symm (fun h => by rw [hm] at h; cases h) (fun a h h2 => ?_) (fun b h h2 => ?_) (fun a b h h2 h3 => ?_)
        · cases h; exact ⟨ka, hxa, by rw [hm, lo_lt hlt]; omega⟩
        · rw [hmx, hi_le (by omega)]; omega
        · rw [hm] at h; cases h; exact ⟨xa, hxa, rfl, rfl⟩
        · rw [hmx] at h; cases h; omega
        · rw [hm] at h; cases h; omega
      · rw [decide_eq_false (by omega)]
        simp only [BIf_false]
        have hak : ka < key := by omega
        refine F49_call (F49_spec (Ta.fr f03 id id) H3 T M hkey hN (fun k' h => by rw [hm] at h; cases h; exact hak) (fun w4 hc f4 => back_p ?_) fun l q ka' kb' w4 h1 h2 h3 h4 h5 f4 => back_p ?_)
        · have hbk : kb < key := by
            rcases hc with h | ⟨kb', h, h2⟩
            · rw [hm] at h; cases h
            · rw [hmx] at h; cases h; exact h2
          have f04 := f03.trans f4 fun _ h => h.elim
          have H4 := H.fr0 f04
          unfold F42_J2
          simp only [Option.isNone_none, BIf_true, NN_mk]
          refine load_pO (p := lfo N B mx) (i := 6) H4.hd rfl ?_
          rw [hlx]
          simp only [oA_some, Option.isNone_some, Bool.not_false, BIf_true]
          refine load_pO (p := lfo N B mx) (i := 6) H4.hd rfl ?_
          rw [hlx]
          simp only [oA_some, NN_mk]
          refine load_any (i := 0) (H4.nd.nd hxb) rfl ?_
          refine key_intro (H4.nd.eB hxb) fun w5 f5 => ?_
          have f05 := f04.trans f5 fun _ h => h.elim
          have H5 := H.fr0 f05
          rw [decide_eq_true (by omega)]
          unfold F42_J3
          simp only [BIf_true, NN_mk]
          refine load_pO (p := lfo N B mx) (i := 6) H5.hd rfl ?_
          rw [hlx]
          refine j4 (pv0 := some xb) (pv := some xb) (sv := none) w5 f05 (fun s h => by cases h) (fun s h => ?_) (fun h => absurd rfl h) (fun _ => ?_) rfl (fun h => by rw [hm] at h; cases h) (fun a h h2 => ?_) (fun b h h2 => ?_) (fun a b h h2 h3 => ?_)
          · cases h; exact ⟨kb, hxb, by rw [hmx, hi_gt hbk]; omega⟩
          · rw [hm, lo_ge hak]; omega
          · rw [hm] at h; cases h; omega
          · rw [hmx] at h; cases h; exact ⟨xb, hxb, rfl, rfl⟩
          · rw [hmx] at h2; cases h2; omega
        · rw [hm] at h1; cases h1
          rw [hmx] at h2; cases h2
          have f04 := f03.trans f4 fun _ h => h.elim
          unfold F42_J2
          simp only [Option.isNone_some, BIf_false]
          refine j4 (pv0 := none) (pv := c l 0) (sv := some l) w4 f04 (fun s h => ?_) (fun p h => ?_) (fun _ => ?_) (fun _ => ?_) rfl (fun h => by rw [hm] at h; cases h) (fun a h h2 => ?_) (fun b h h2 => ?_) (fun a b h h2 h3 h6 => ⟨by simp, fun h7 => ?_⟩)
          · cases h; exact ⟨q, h4, by rw [hm, lo_ge hak]; exact fun e => h5 e.symm⟩
          · obtain ⟨q', h7, h8, _⟩ := T.lf h4 (by decide) h
            exact ⟨q', h7, fun e => h8 rfl (by rw [← e, hmx, hi_le h3])⟩
          · rw [hmx, hi_le h3]; omega
          · rw [hm, lo_ge hak]; omega
          · rw [hm] at h; cases h; omega
          · rw [hmx] at h; cases h; omega
          · have := M.l0 h4 h7
            rw [hm] at this; cases this; exact h5 rfl
end
end Go.Proofs.YtaacaokocamlcaaDoor.E
