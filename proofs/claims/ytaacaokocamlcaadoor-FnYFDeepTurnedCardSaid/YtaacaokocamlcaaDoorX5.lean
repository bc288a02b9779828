/-
  An x-fast trie in memory: successor.
-/
import Derived.Test.YtaacaokocamlcaaDoorX4
namespace Go.Proofs.YtaacaokocamlcaaDoor.E
open Go
set_option linter.unusedSimpArgs false
set_option linter.unusedVariables false
set_option maxRecDepth 100000
set_option maxHeartbeats 4000000

/-- The leaf of a key that may be none. -/
def lfo (N : Nd) (B : Nat) (m : Option Nat) : Option Nat := m.bind (N B)
structure XH (w : World) (a ls B : Nat) (mm : Nat → Nat) (N c : Nd) (pa : Nat → Option Nat) (en : Nat → Value) (mn mx : Option Nat) (num : Nat) : Prop where
  hd : Blk w a 82 [.slice (some ⟨ls, 0, none⟩) B B, pO (N 0 0), .int .u64 (num : Nat), .int .u8 (B : Nat), .int .u8 (64 - B : Nat), pO (lfo N B mn), pO (lfo N B mx)]
  la : Lay w ls B mm N
  nd : Nds w B N c pa en
section
variable {w : World} {a ls B : Nat} {mm : Nat → Nat} {N c : Nd} {pa : Nat → Option Nat} {en : Nat → Value} {mn mx : Option Nat} {num : Nat}
theorem XH.fr0 {w' : World} (h : XH w a ls B mm N c pa en mn mx num) (f : Fr (fun _ => False) w w') : XH w' a ls B mm N c pa en mn mx num :=
  ⟨h.hd.fr f id, h.la.fr f id fun _ _ => id, h.nd.fr0 f⟩
theorem load_pO {w : World} {b t i : Nat} {vs : List Value} {p : Option Nat} {f : Option Addr → W} (h : Blk w b t vs) (hi : vs[i]? = some (pO p)) (hk : f (oA p) w) : LoadT .ptr ⟨b, i, none⟩ f w := load_ptr h hi hk
theorem isNone_oA (o : Option Nat) : (oA o).isNone = o.isNone := by cases o <;> rfl
/-- The last layer has the leaves. -/
theorem XH.leafmap (H : XH w a ls B mm N c pa en mn mx num) (h0 : 0 < B) : ∃ l, MapB w (mm (B - 1)) kU l ∧ ∀ k : Nat, getL ((k : Nat) : Int) l = (N B k).map fun x => pO (some x) := by
  obtain ⟨l, h1, h2⟩ := H.la.mp (B - 1) (by omega)
  refine ⟨l, h1, fun k => ?_⟩
  have := h2 k
  rw [show B - 1 + 1 = B by omega] at this
  rw [← this]
  unfold E.mk
  rw [Nat.sub_self, Nat.pow_zero, Nat.mul_one]
theorem back_p {f : Option Addr → W} {p : Option Addr} {w : World} (h : f p w) : Back (.s (.one .ptr)) f (.returned (.pointer p)) w := back_ptr h
/-- The deepest node asked for its sides. -/
theorem F49_J2_spec {k : Value → W} {i x key kb ka : Nat} (H : XH w a ls B mm N c pa en mn mx num) (T : T0 B N c mn mx) (M : Nl B N c mn mx) (hk : key < 2 ^ B) (hi : i < B) (hx : N i (pre B i key) = some x) (hn : N (i + 1) (pre B (i + 1) key) = none)
    (ha : mn = some ka) (hb : mx = some kb) (hak : ka < key) (hkb : key < kb)
    (hkk : ∀ l q, N B q = some l → q ≠ ka → k (.pointer (some ⟨l, 0, none⟩)) w) : F49_J2 k (some ⟨x, 0, none⟩) w := by
  have hs := T.succ M hk hi hx hn ha hb hak hkb
  have hB := H.nd.nd hx
  unfold F49_J2
  simp only [NN_mk]
  refine ⟨by decide, load_pO (p := c x 1) (i := 2) hB rfl ?_⟩
  refine F62_call (F62_spec (o := c x 1) H.nd T (T.kinds hx (by decide)) fun b hb2 => back_bool ?_)
  rcases hs with ⟨l, h1, h2, q, h3, h4⟩ | ⟨y, l0, l, h1, h2, h3, ⟨q0, h4⟩, h5, q, h6, h7⟩
  · have hb' : b = false := by
      cases b with
      | false => rfl
      | true => obtain ⟨z, hz, hz2⟩ := hb2.1 rfl; rw [h1] at hz; cases hz; exact absurd hz2 h2
    subst hb'
    simp only [BIf_false]
    unfold F49_J3
    simp only [BIf_false, NN_mk]
    refine ⟨by decide, load_pO (p := c x 1) (i := 2) hB rfl ?_⟩
    rw [h1]
    exact hkk l q h3 h4
  · have hb' : b = true := hb2.2 ⟨y, h1, h2⟩
    subst hb'
    simp only [BIf_true, NN_mk]
    refine ⟨by decide, load_pO (p := c x 0) (i := 1) hB rfl ?_⟩
    refine F52_call (F52_spec (o := c x 0) H.nd T (T.kinds hx (by decide)) fun b hb3 => back_bool ?_)
    have hb' : b = true := hb3.2 ⟨l0, q0, h3, h4⟩
    subst hb'
    unfold F49_J3
    simp only [BIf_true, NN_mk]
    refine ⟨by decide, load_pO (p := c x 0) (i := 1) hB rfl ?_⟩
    rw [h3]
    simp only [oA_some, NN_mk]
    refine ⟨by decide, load_pO (p := c l0 1) (i := 2) (H.nd.nd h4) rfl ?_⟩
    rw [h5]
    exact hkk l q h6 h7
/-- successor, of a key that is not there and not below the least one. -/
theorem F49_spec {k : Value → W} {key : Nat} (Ta : Tabs w) (H : XH w a ls B mm N c pa en mn mx num) (T : T0 B N c mn mx) (M : Nl B N c mn mx) (hk : key < 2 ^ B) (hno : N B key = none) (hmn : ∀ ka, mn = some ka → ka < key)
    (hk0 : ∀ w', (mn = none ∨ ∃ kb, mx = some kb ∧ kb < key) → Fr (fun _ => False) w w' → k (.pointer none) w')
    (hk1 : ∀ l q ka kb w', mn = some ka → mx = some kb → key < kb → N B q = some l → q ≠ ka → Fr (fun _ => False) w w' → k (.pointer (some ⟨l, 0, none⟩)) w') : F49 k (some ⟨a, 0, none⟩) (key : Nat) w := by
  have h64 := H.la.b64
  have hB0 := T.b0
  have hk64 : key < 18446744073709551616 := Nat.lt_of_lt_of_le hk (Nat.pow_le_pow_right (n := 2) (by decide) h64)
  obtain ⟨r, hr⟩ := T.rt
  unfold F49
  simp only [NN_mk]
  refine load_pO (p := N 0 0) (i := 1) H.hd rfl ?_
  rw [hr]
  simp only [oA_some, Option.isNone_some, BIf_false]
  refine load_pO (p := lfo N B mn) (i := 5) H.hd rfl ?_
  cases hm : mn with
  | none =>
    simp only [lfo, Option.bind_none, oA_none, Option.isNone_none, BIf_true]
    exact hk0 w (.inl hm) (Fr.refl _ _)
  | some ka =>
    obtain ⟨⟨xa, hxa⟩, hmin⟩ := T.mn1 hm
    have hak := hmn ka hm
    have hlm : lfo N B mn = some xa := by rw [hm]; exact hxa
    have hlm' : lfo N B (some ka) = some xa := hxa
    simp only [hlm', oA_some, Option.isNone_some, BIf_false]
    refine load_pO (p := lfo N B mn) (i := 5) H.hd rfl ?_
    rw [hlm]
    simp only [oA_some, NN_mk]
    refine load_any (i := 0) (H.nd.nd hxa) rfl ?_
    refine key_intro (H.nd.eB hxa) fun w1 f1 => ?_
    rw [decide_eq_false (show ¬ ((key : Nat) : Int) ≤ ((ka : Nat) : Int) by omega)]
    simp only [BIf_false]
    have H1 := H.fr0 f1
    cases hmxx : mx with
    | none => exact absurd (T.mx0 hmxx ka) (by rw [hxa]; simp)
    | some kb =>
    obtain ⟨⟨xb, hxb⟩, hmax⟩ := T.mx1 hmxx
    have hlx : lfo N B mx = some xb := by rw [hmxx]; exact hxb
    refine load_pO (p := lfo N B mx) (i := 6) H1.hd rfl ?_
    rw [hlx]
    simp only [oA_some, NN_mk]
    refine load_any (i := 0) (H1.nd.nd hxb) rfl ?_
    refine key_intro (H1.nd.eB hxb) fun w2 f2 => ?_
    have f02 := f1.trans f2 fun _ h => h.elim
    by_cases hgt : kb < key
    · rw [decide_eq_true (show ((key : Nat) : Int) > ((kb : Nat) : Int) by omega)]
      simp only [BIf_true]
      exact hk0 w2 (.inr ⟨kb, hmxx, hgt⟩) f02
    rw [decide_eq_false (show ¬ ((key : Nat) : Int) > ((kb : Nat) : Int) by omega)]
    simp only [BIf_false]
    have hkb : key < kb := by
      rcases Nat.lt_or_ge key kb with h | h
      · exact h
      · have : key = kb := by omega
        subst this; rw [hno] at hxb; cases hxb
    refine drw_intro fun w3 f3 z3 => ?_
    have f03 := f02.trans f3 fun _ h => h.elim
    have H3 := H.fr0 f03
    refine load_slice (i := 0) H3.hd rfl (load_int (i := 3) H3.hd rfl ?_)
    have e1 : subI .u8 ((B : Nat) : Int) 1 = ((B - 1 : Nat) : Int) := by
      show IntKind.wrap .u8 _ = _
      rw [wrap_u8 (by omega) (by omega)]; omega
    rw [e1]
    simp only [NN_mk, Int.toNat_natCast]
    obtain ⟨l, hM, hl⟩ := H3.leafmap hB0
    refine ⟨by omega, LoadT_map.2 ⟨_, by rw [add_mk, Nat.zero_add]; exact H3.la.map (by omega), ?_⟩⟩
    refine look_p hM (o := N B key) (hl key) ?_
    refine ⟨by show w3.cell? ⟨a, 3, none⟩ = _; rw [H3.hd.cell]; rfl, by show w3.cell? ⟨a, 0, none⟩ = _; rw [H3.hd.cell]; rfl, ?_⟩
    rw [hno]
    simp only [oA_none, Option.isNone_none, Bool.not_true, BIf_false]
    refine load_slice (i := 0) H3.hd rfl ?_
    refine F51_call (F51_spec (Ta.fr f03 id id) H3.la T hk hno fun i x w4 hi hx hn f4 => back_ip ?_)
    have f04 := f03.trans f4 fun _ h => h.elim
    have H4 := H.fr0 f04
    have fin : F49_J2 k (some ⟨x, 0, none⟩) w4 := F49_J2_spec H4 T M hk hi hx hn hm hmxx hak hkb fun l q h1 h2 => hk1 l q ka kb w4 hm hmxx hkb h1 h2 f04
    by_cases hi0 : i = 0
    · subst hi0
      simp only [if_true, Option.isNone_none, BIf_true]
      unfold F49_J1
      rw [decide_eq_false (show ¬ ((0 : Nat) : Int) > 1 by omega)]
      simp only [BIf_false, Option.isNone_none, BIf_true, NN_mk]
      refine load_pO (p := N 0 0) (i := 1) H4.hd rfl ?_
      rw [pre_zero hk] at hx
      rw [hx]
      exact fin
    · rw [if_neg hi0]
      simp only [Option.isNone_some, BIf_false]
      unfold F49_J1
      simp only [BIf_false, Option.isNone_some]
      exact fin
end
end Go.Proofs.YtaacaokocamlcaaDoor.E
