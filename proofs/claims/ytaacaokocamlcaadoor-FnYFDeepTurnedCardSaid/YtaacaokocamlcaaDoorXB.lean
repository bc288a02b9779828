/-
  A key's path made, in memory.
-/
import Derived.Test.YtaacaokocamlcaaDoorXA
import Derived.Test.YtaacaokocamlcaaDoorBits
namespace Go.Proofs.YtaacaokocamlcaaDoor.E
open Go
set_option linter.unusedSimpArgs false
set_option linter.unusedVariables false
set_option maxRecDepth 100000
set_option maxHeartbeats 4000000

/-- The path made as far as the i-th prefix. -/
def gri (B : Nat) (N : Nd) (k i0 : Nat) (ys : Nat → Nat) (i : Nat) : Nd := fun j q => if i0 < j ∧ j ≤ i ∧ q = pre B j k then some (ys j) else N j q
theorem gri_all (B : Nat) (N : Nd) (k i0 : Nat) (ys : Nat → Nat) : gri B N k i0 ys B = grow B N k i0 ys := rfl
theorem gri_zero (B : Nat) (N : Nd) (k i0 : Nat) (ys : Nat → Nat) : gri B N k i0 ys i0 = N := by
  funext j q; unfold gri; rw [if_neg (by omega)]
structure Mdi (B : Nat) (N c ci : Nd) (k i0 x0 : Nat) (ys : Nat → Nat) (i : Nat) : Prop where
  y0 : ys i0 = x0
  fr : ∀ {j p q}, i0 < j → j ≤ i → N p q ≠ some (ys j)
  yi : ∀ {j j'}, i0 < j → j ≤ i → i0 < j' → j' ≤ i → ys j = ys j' → j = j'
  co : ∀ {j p x s}, N j p = some x → (x ≠ x0 ∨ s ≠ bit B i0 k) → ci x s = c x s
  ce : i0 = i → ci = c
  cx : i0 < i → ci x0 (bit B i0 k) = some (ys (i0 + 1))
  cn : ∀ {j}, i0 < j → j < i → ci (ys j) (bit B j k) = some (ys (j + 1))
  cm : ∀ {j s}, i0 < j → j < i → s < 2 → s ≠ bit B j k → ci (ys j) s = none
  cl : ∀ {s}, i0 < i → s < 2 → ci (ys i) s = none
def F42_X (k : Value → W) (xft_65 : Option Addr) (key_67 : Int) (n_68 : Option Addr) (predecessor_69 : Option Addr) (successor_70 : Option Addr) (root_71 : Option Addr) : W :=
  BIf (!successor_70.isNone) (
   NN successor_70 fun a132 =>
   Req (0 ≤ (0 : Int) ∧ (0 : Int) < (2 : Int)) <|
   LoadT .ptr ((a132.add 1).add ((0 : Int).toNat)) fun p133 =>
   BIf (!p133.isNone) (
    NN p133 fun a134 =>
    Req (0 ≤ (1 : Int) ∧ (1 : Int) < (2 : Int)) <|
    Store1 ((a134.add 1).add ((1 : Int).toNat)) (.pointer n_68) <|
    NN n_68 fun a135 =>
    Req (0 ≤ (0 : Int) ∧ (0 : Int) < (2 : Int)) <|
    Store1 ((a135.add 1).add ((0 : Int).toNat)) (.pointer p133) <|
    F42_J9 k xft_65 key_67 n_68 p133 successor_70 root_71) (
    F42_J9 k xft_65 key_67 n_68 p133 successor_70 root_71)) (
   BIf (!predecessor_69.isNone) (
    NN n_68 fun a188 =>
    Req (0 ≤ (0 : Int) ∧ (0 : Int) < (2 : Int)) <|
    Store1 ((a188.add 1).add ((0 : Int).toNat)) (.pointer predecessor_69) <|
    NN predecessor_69 fun a189 =>
    Req (0 ≤ (1 : Int) ∧ (1 : Int) < (2 : Int)) <|
    Store1 ((a189.add 1).add ((1 : Int).toNat)) (.pointer n_68) <|
    F42_J10 k xft_65 key_67 n_68 predecessor_69 successor_70 root_71) (
    F42_J10 k xft_65 key_67 n_68 predecessor_69 successor_70 root_71))
section
variable {w : World} {a ls B : Nat} {mm : Nat → Nat} {N c : Nd} {pa : Nat → Option Nat} {en : Nat → Value} {mn mx : Option Nat} {num : Nat}
/-- A plain step: one more node. -/
theorem Mdi.step {ci : Nd} {k i0 x0 i y : Nat} {ys : Nat → Nat} (M : Mdi B N c ci k i0 x0 ys i) (T : T0 B N c mn mx) (hi0 : i0 ≤ i) (hx0 : N i0 (pre B i0 k) = some x0) (hy : ∀ p q, N p q ≠ some y) (hys : ∀ j, i0 < j → j ≤ i → ys j ≠ y) :
    Mdi B N c (sput (fun x s => if x = y then none else ci x s) (ys i) (bit B i k) (some y)) k i0 x0 (fun j => if j = i + 1 then y else ys j) (i + 1) := by
  have hbl := bit_lt B i k
  have hyx0 : x0 ≠ y := fun e => hy _ _ (by rw [← e]; exact hx0)
  have hyi : ys i ≠ y := by
    rcases Nat.lt_or_ge i0 i with h | h
    · exact hys i h (Nat.le_refl _)
    · have : i = i0 := by omega
      subst this; rw [M.y0]; exact hyx0
  have hold : ∀ {j p x}, N j p = some x → x ≠ y := fun h e => hy _ _ (by rw [← e]; exact h)
  refine ⟨?_, fun {j p q} h1 h2 => ?_, fun {j j'} h1 h2 h3 h4 h5 => ?_, fun {j p x s} h h2 => ?_, fun h => by omega, fun _ => ?_, fun {j} h1 h2 => ?_, fun {j s} h1 h2 h3 h4 => ?_, fun {s} h1 h2 => ?_⟩
  · show (if i0 = i + 1 then y else ys i0) = x0
    rw [if_neg (by omega)]; exact M.y0
  · show N p q ≠ some (if j = i + 1 then y else ys j)
    split
    · exact hy p q
    · exact M.fr h1 (by omega)
  · have h5 : (if j = i + 1 then y else ys j) = (if j' = i + 1 then y else ys j') := h5
    split at h5 <;> split at h5
    · omega
    · exact absurd h5.symm (hys j' h3 (by omega))
    · exact absurd h5 (hys j h1 (by omega))
    · exact M.yi h1 (by omega) h3 (by omega) h5
  · have hne : x ≠ ys i ∨ s ≠ bit B i k := by
      rcases Nat.lt_or_ge i0 i with h3 | h3
      · exact .inl fun e => M.fr h3 (Nat.le_refl _) (e ▸ h)
      · have : i = i0 := by omega
        subst this; rw [M.y0]; exact h2
    rw [sput_ne _ _ _ _ hne, if_neg (hold h)]
    exact M.co h h2
  · rcases Nat.lt_or_ge i0 i with h3 | h3
    · have hne : x0 ≠ ys i := fun e => M.fr h3 (Nat.le_refl _) (e ▸ hx0)
      rw [sput_ne _ _ _ _ (.inl hne), if_neg hyx0, if_neg (by omega)]
      exact M.cx h3
    · have : i = i0 := by omega
      subst this
      rw [if_pos rfl, M.y0, sput_same]
  · by_cases e : j = i
    · subst e
      rw [if_neg (by omega), if_pos rfl, sput_same]
    · have hji : ys j ≠ ys i := fun e2 => e (M.yi h1 (by omega) (by omega) (Nat.le_refl _) e2)
      rw [if_neg (by omega), if_neg (by omega), sput_ne _ _ _ _ (.inl hji), if_neg (hys j h1 (by omega))]
      exact M.cn h1 (by omega)
  · by_cases e : j = i
    · subst e
      rw [if_neg (by omega), sput_ne _ _ _ _ (.inr h4), if_neg (hys j h1 (by omega))]
      exact M.cl h1 h3
    · have hji : ys j ≠ ys i := fun e2 => e (M.yi h1 (by omega) (by omega) (Nat.le_refl _) e2)
      rw [if_neg (by omega), sput_ne _ _ _ _ (.inl hji), if_neg (hys j h1 (by omega))]
      exact M.cm h1 (by omega) h3 h4
  · rw [if_pos rfl, sput_ne _ _ _ _ (.inl hyi.symm), if_pos rfl]
theorem Mdi.made {ci : Nd} {k i0 x0 : Nat} {ys : Nat → Nat} (M : Mdi B N c ci k i0 x0 ys B) (hk : k < 2 ^ B) (hi : i0 < B) (hx : N i0 (pre B i0 k) = some x0) (hn : N (i0 + 1) (pre B (i0 + 1) k) = none) : Made B N c ci k i0 x0 ys :=
  ⟨hk, hi, hx, hn, fun {j i p} h1 h2 => M.fr h1 h2, fun {i j} h1 h2 h3 h4 => M.yi h1 h2 h3 h4, fun {i p x s} h h2 => M.co h h2, M.cx hi, fun {j} h1 h2 => M.cn h1 h2, fun {j s} h1 h2 h3 h4 => M.cm h1 h2 h3 h4, fun {s} h => M.cl hi h⟩
end
end Go.Proofs.YtaacaokocamlcaaDoor.E

namespace Go.Proofs.YtaacaokocamlcaaDoor.E
open Go
set_option linter.unusedSimpArgs false
set_option linter.unusedVariables false
set_option maxRecDepth 100000
set_option maxHeartbeats 8000000

/-- The trie's own blocks. -/
def XS (a B : Nat) (mm : Nat → Nat) (N : Nd) (b : Nat) : Prop := b = a ∨ (∃ i, i < B ∧ b = mm i) ∨ ∃ i p, N i p = some b
section
variable {w : World} {a ls B : Nat} {mm : Nat → Nat} {N c : Nd} {pa : Nat → Option Nat} {en : Nat → Value} {mn mx : Option Nat} {num : Nat}
structure Cre (w w' : World) (a ls B : Nat) (mm : Nat → Nat) (N c : Nd) (en : Nat → Value) (mnb mxb : Option Nat) (num k i0 x0 : Nat) (e : Value) (ys : Nat → Nat) (ci : Nd) (pi : Nat → Option Nat) (ei : Nat → Value) (i : Nat) : Prop where
  m : Mdi B N c ci k i0 x0 ys i
  hd : Blk w' a 82 [.slice (some ⟨ls, 0, none⟩) B B, pO (N 0 0), .int .u64 ((num + (if i = B then 1 else 0) : Nat) : Int), .int .u8 (B : Nat), .int .u8 (64 - B : Nat), pO mnb, pO mxb]
  la : Lay w' ls B mm (gri B N k i0 ys i)
  nd : Nds w' B (gri B N k i0 ys i) ci pi ei
  eo : ∀ j p x, N j p = some x → ei x = en x
  ee : i = B → ei (ys B) = e
  kp : KP w' e k
  ta : Tabs w'
  fr : Fr (XS a B mm N) w w'
  yn : ∀ j, i0 < j → j ≤ i → w.heap.size ≤ ys j
theorem KP.frX {S : Nat → Prop} {w w' : World} {v : Value} {k : Nat} (h : KP w v k) (f : Fr S w w') (hS : ∀ b us, S b → Blk w b 107 us → False) : KP w' v k := h.fr f fun b us hb hs => hS b us hs hb
end
end Go.Proofs.YtaacaokocamlcaaDoor.E

namespace Go.Proofs.YtaacaokocamlcaaDoor.E
open Go
set_option linter.unusedSimpArgs false
set_option linter.unusedVariables false
set_option maxRecDepth 100000
set_option maxHeartbeats 8000000

theorem load_side {w : World} {x s : Nat} {v p : Value} {c : Nat → Option Nat} {f : Option Addr → W} (hB : Blk w x 91 [v, pO (c 0), pO (c 1), p]) (hs : s < 2) (hk : f (oA (c s)) w) : LoadT .ptr (((⟨x, 0, none⟩ : Addr).add 1).add s) f w := by
  rw [add_mk, add_mk]
  have : s = 0 ∨ s = 1 := by omega
  rcases this with rfl | rfl
  · exact load_pO (i := 1) hB rfl hk
  · exact load_pO (i := 2) hB rfl hk
section
variable {w : World} {a ls B : Nat} {mm : Nat → Nat} {N c : Nd} {pa : Nat → Option Nat} {en : Nat → Value} {mn mx : Option Nat} {num : Nat}
theorem gri_step {k i0 i y j q x : Nat} {ys : Nat → Nat} (hi : i0 ≤ i) (hn : N (i + 1) (pre B (i + 1) k) = none) : gri B N k i0 (fun j => if j = i + 1 then y else ys j) (i + 1) j q = some x ↔ (j = i + 1 ∧ q = pre B (i + 1) k ∧ x = y) ∨ gri B N k i0 ys i j q = some x := by
  unfold gri
  by_cases h : i0 < j ∧ j ≤ i + 1 ∧ q = pre B j k
  · rw [if_pos h]
    obtain ⟨h1, h2, rfl⟩ := h
    by_cases e : j = i + 1
    · subst e
      dsimp only
      rw [if_pos rfl, if_neg (by omega), hn]
      exact ⟨fun h => .inl ⟨rfl, rfl, (Option.some.inj h).symm⟩, fun h => h.elim (fun h => by rw [h.2.2]) (fun h => by cases h)⟩
    · dsimp only
      rw [if_neg e, if_pos ⟨h1, by omega, rfl⟩]
      exact ⟨.inr, fun h => h.elim (fun h => absurd h.1 e) id⟩
  · rw [if_neg h, if_neg (fun h2 => h ⟨h2.1, by omega, h2.2.2⟩)]
    refine ⟨.inr, fun h2 => h2.elim (fun h2 => ?_) id⟩
    obtain ⟨rfl, rfl, _⟩ := h2
    exact absurd ⟨by omega, Nat.le_refl _, rfl⟩ h
theorem gri_cur {k i0 i : Nat} {ys : Nat → Nat} (hi : i0 ≤ i) (h0 : N i0 (pre B i0 k) = some (ys i0)) : gri B N k i0 ys i i (pre B i k) = some (ys i) := by
  rcases Nat.lt_or_ge i0 i with h | h
  · unfold gri; rw [if_pos ⟨h, Nat.le_refl _, rfl⟩]
  · have : i = i0 := by omega
    subst this; rw [gri_zero]; exact h0
/-- The nodes, with one more. -/
theorem Nds.more {w1 w2 : World} {ci : Nd} {pi : Nat → Option Nat} {ei : Nat → Value} {k i0 i y : Nat} {ys : Nat → Nat} {v : Value} (H : Nds w1 B (gri B N k i0 ys i) ci pi ei) (hi : i0 ≤ i) (hiB : i < B) (h0 : N i0 (pre B i0 k) = some (ys i0)) (hn : N (i + 1) (pre B (i + 1) k) = none)
    (hfresh : ∀ {j q}, gri B N k i0 ys i j q ≠ some y) (hinj : ∀ {j q}, gri B N k i0 ys i j q = some (ys i) → j = i)
    (hy : Blk w2 y 91 [v, pO none, pO none, pO (some (ys i))]) (hz : Blk w2 (ys i) 91 ([ei (ys i), pO (ci (ys i) 0), pO (ci (ys i) 1), pO (pi (ys i))].set (bit B i k + 1) (pO (some y))))
    (hfr : ∀ {j q x}, gri B N k i0 ys i j q = some x → x ≠ ys i → Blk w2 x 91 [ei x, pO (ci x 0), pO (ci x 1), pO (pi x)])
    (hclo : ∀ {j q x}, gri B N k i0 ys i (j + 1) q = some x → ∃ z, gri B N k i0 ys i j (q / 2) = some z) (hkp : ∀ {q x}, gri B N k i0 ys i B q = some x → KP w2 (ei x) q) (hv : if i + 1 = B then KP w2 v k else v = .nilIface) :
    Nds w2 B (gri B N k i0 (fun j => if j = i + 1 then y else ys j) (i + 1)) (sput (fun x s => if x = y then none else ci x s) (ys i) (bit B i k) (some y)) (fun x => if x = y then some (ys i) else pi x) (fun x => if x = y then v else ei x) := by
  have hyi : ys i ≠ y := fun e => hfresh (e ▸ gri_cur hi h0)
  have hbl := bit_lt B i k
  refine ⟨fun {j q x} h => ?_, fun {j q x} h hj => ?_, fun {q x} h => ?_, fun {q x} h => ?_, fun {j q x} h => ?_⟩
  · rcases (gri_step hi hn).1 h with ⟨rfl, rfl, rfl⟩ | h
    · rw [sput_ne _ _ _ _ (.inl hyi.symm), sput_ne _ _ _ _ (.inl hyi.symm), if_pos rfl, if_pos rfl, if_pos rfl, if_pos rfl]
      exact hy
    · have hxy : x ≠ y := fun e => hfresh (e ▸ h)
      rw [if_neg hxy, if_neg hxy]
      by_cases e : x = ys i
      · subst e
        have hb : bit B i k = 0 ∨ bit B i k = 1 := by omega
        rcases hb with hb | hb
        · rw [hb] at hz ⊢
          rw [sput_same, sput_ne _ _ _ _ (.inr (by decide)), if_neg hxy]; exact hz
        · rw [hb] at hz ⊢
          rw [sput_same, sput_ne _ _ _ _ (.inr (by decide)), if_neg hxy]; exact hz
      · rw [sput_ne _ _ _ _ (.inl e), sput_ne _ _ _ _ (.inl e), if_neg hxy, if_neg hxy]
        exact hfr h e
  · rcases (gri_step hi hn).1 h with ⟨rfl, rfl, rfl⟩ | h
    · rw [if_pos rfl]; rw [if_neg (by omega)] at hv; exact hv
    · rw [if_neg (fun e => hfresh (e ▸ h))]; exact H.e0 h hj
  · rcases (gri_step hi hn).1 h with ⟨h1, h2, rfl⟩ | h
    · rw [if_pos rfl, h2]; rw [if_pos h1.symm] at hv
      rw [← h1, pre_all]; exact hv
    · rw [if_neg (fun e => hfresh (e ▸ h))]; exact hkp h
  · rcases (gri_step hi hn).1 h with ⟨h1, _⟩ | h
    · omega
    · rw [if_neg (fun e => hfresh (e ▸ h))]; exact H.p0 h
  · rcases (gri_step hi hn).1 h with ⟨h1, h2, rfl⟩ | h
    · have : j = i := by omega
      subst this
      rw [if_pos rfl, h2, pre_succ hiB]
      exact ((gri_step hi hn).2 (.inr (gri_cur hi h0))).symm
    · rw [if_neg (fun e => hfresh (e ▸ h)), H.pS h]
      obtain ⟨z, hz2⟩ := hclo h
      rw [hz2]
      exact ((gri_step hi hn).2 (.inr hz2)).symm
end
end Go.Proofs.YtaacaokocamlcaaDoor.E

namespace Go.Proofs.YtaacaokocamlcaaDoor.E
open Go
set_option linter.unusedSimpArgs false
set_option linter.unusedVariables false
set_option maxRecDepth 100000
set_option maxHeartbeats 8000000

theorem getL_put_same {K : Type} [DecidableEq K] (a : K) (v : Value) : ∀ l : List (K × Value), getL a (putL a v l) = some v
  | [] => by simp [putL, getL]
  | p :: l => by
    unfold putL
    by_cases h : a = p.1
    · rw [if_pos h]; unfold getL; rw [if_pos h]
    · rw [if_neg h]; unfold getL; rw [if_neg h]; exact getL_put_same a v l
theorem getL_put_ne {K : Type} [DecidableEq K] {a b : K} (v : Value) (hab : b ≠ a) : ∀ l : List (K × Value), getL b (putL a v l) = getL b l
  | [] => by simp [putL, getL, hab]
  | p :: l => by
    unfold putL
    by_cases h : a = p.1
    · rw [if_pos h]; unfold getL; rw [← h, if_neg hab, if_neg hab]
    · rw [if_neg h]; unfold getL
      rw [getL_put_ne v hab l]
/-- A layer with one more prefix. -/
theorem Lay.more {w w' : World} {ls B : Nat} {mm : Nat → Nat} {N N' : Nd} {i q y : Nat} {l : List (Int × Value)} (h : Lay w ls B mm N) (hi : i < B) (hM : MapB w (mm i) kU l) (hg : ∀ p, getL ((E.mk B (i + 1) p : Nat) : Int) l = (N (i + 1) p).map fun x => pO (some x))
    (hN : ∀ {j p x}, N' j p = some x ↔ (j = i + 1 ∧ p = q ∧ x = y) ∨ N j p = some x) (hn : N (i + 1) q = none)
    (hM' : MapB w' (mm i) kU (putL ((E.mk B (i + 1) q : Nat) : Int) (pO (some y)) l)) (f : Fr (fun b => b = mm i) w w') : Lay w' ls B mm N' := by
  have opt : ∀ {o o' : Option Nat}, (∀ x, o = some x ↔ o' = some x) → o = o' := fun {o o'} h => by
    cases o with
    | none => cases o' with
      | none => rfl
      | some x => exact absurd ((h x).2 rfl) (by simp)
    | some x => exact ((h x).1 rfl).symm
  refine ⟨h.b64, h.ly.fr f fun e => (hM.not_blk h.ly) e.symm, fun j hj => ?_, h.mi⟩
  by_cases e : j = i
  · subst e
    refine ⟨_, hM', fun p => ?_⟩
    by_cases hp : p = q
    · subst hp
      rw [getL_put_same]
      have : N' (j + 1) p = some y := hN.2 (.inl ⟨rfl, rfl, rfl⟩)
      rw [this]; rfl
    · rw [getL_put_ne _ (fun e => hp (E.mk_inj (Int.ofNat_inj.1 e))), hg]
      congr 1
      refine opt fun x => ?_
      rw [hN]
      exact ⟨.inr, fun h => h.elim (fun h => absurd h.2.1 hp) id⟩
  · obtain ⟨l', a, b⟩ := h.mp j hj
    refine ⟨l', a.fr f fun e2 => e (h.mi j i hj hi e2), fun p => ?_⟩
    rw [b]
    congr 1
    refine opt fun x => ?_
    rw [hN]
    exact ⟨.inr, fun h => h.elim (fun h => by have := h.1; omega) id⟩
end Go.Proofs.YtaacaokocamlcaaDoor.E

namespace Go.Proofs.YtaacaokocamlcaaDoor.E
open Go
set_option linter.unusedSimpArgs false
set_option linter.unusedVariables false
set_option maxRecDepth 100000
set_option maxHeartbeats 8000000

section
variable {w : World} {a ls B : Nat} {mm : Nat → Nat} {N c : Nd} {pa : Nat → Option Nat} {en : Nat → Value} {mn mx : Option Nat} {num : Nat}
theorem gri_none {k i0 i : Nat} {ys : Nat → Nat} (T : T0 B N c mn mx) (hi : i0 ≤ i) (hiB : i < B) (hn : N (i0 + 1) (pre B (i0 + 1) k) = none) : N (i + 1) (pre B (i + 1) k) = none := by
  cases h : N (i + 1) (pre B (i + 1) k) with
  | none => rfl
  | some z =>
    obtain ⟨z', hz'⟩ := T.up (i := i0 + 1) rfl (by omega) (by omega) h
    rw [hn] at hz'; cases hz'
theorem gri_clo {k i0 i : Nat} {ys : Nat → Nat} (T : T0 B N c mn mx) (hiB : i ≤ B) (h0 : N i0 (pre B i0 k) = some (ys i0)) {j q x : Nat} (h : gri B N k i0 ys i (j + 1) q = some x) : ∃ z, gri B N k i0 ys i j (q / 2) = some z := by
  unfold gri at h
  by_cases hc : i0 < j + 1 ∧ j + 1 ≤ i ∧ q = pre B (j + 1) k
  · obtain ⟨h1, h2, rfl⟩ := hc
    rw [pre_succ (by omega)]
    unfold gri
    by_cases h3 : i0 < j
    · exact ⟨_, by rw [if_pos ⟨h3, by omega, rfl⟩]⟩
    · have : j = i0 := by omega
      subst this
      exact ⟨_, by rw [if_neg (by omega)]; exact h0⟩
  · rw [if_neg hc] at h
    obtain ⟨z, hz⟩ := T.clo h
    unfold gri
    by_cases h3 : i0 < j ∧ j ≤ i ∧ q / 2 = pre B j k
    · exact ⟨_, by rw [if_pos h3]⟩
    · exact ⟨z, by rw [if_neg h3]; exact hz⟩
end
end Go.Proofs.YtaacaokocamlcaaDoor.E
