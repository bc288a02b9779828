/-
  An x-fast trie, plain: the nodes of prefixes, and what the sides of a node must be (the threads need not be exact).
-/
import Derived.Test.YtaacaokocamlcaaDoorLists
namespace Go.Proofs.YtaacaokocamlcaaDoor.E
open Go
set_option linter.unusedSimpArgs false
set_option linter.unusedVariables false

/-- The first i of B bits. -/
def pre (B i k : Nat) : Nat := k / 2 ^ (B - i)
def bit (B i k : Nat) : Nat := pre B (i + 1) k % 2
theorem pre_all (B k : Nat) : pre B B k = k := by unfold pre; simp
theorem pre_succ {B i k : Nat} (h : i < B) : pre B (i + 1) k / 2 = pre B i k := by
  unfold pre
  rw [Nat.div_div_eq_div_mul, ← Nat.pow_succ, show (B - (i + 1)).succ = B - i by omega]
theorem pre_bit {B i k : Nat} (h : i < B) : 2 * pre B i k + bit B i k = pre B (i + 1) k := by
  rw [← pre_succ h]; unfold bit; omega
theorem bit_lt (B i k : Nat) : bit B i k < 2 := Nat.mod_lt _ (by decide)
theorem pre_lt {B i k : Nat} (h : i ≤ B) (hk : k < 2 ^ B) : pre B i k < 2 ^ i := by
  unfold pre
  rw [Nat.div_lt_iff_lt_mul (Nat.pow_pos (by decide)), ← Nat.pow_add, show i + (B - i) = B by omega]; exact hk
theorem pre_zero {B k : Nat} (hk : k < 2 ^ B) : pre B 0 k = 0 := by have := pre_lt (B := B) (i := 0) (Nat.zero_le _) hk; omega
theorem pre_mono {B i a b : Nat} (h : a ≤ b) : pre B i a ≤ pre B i b := Nat.div_le_div_right h
theorem lt_of_pre {B i a b : Nat} (h : pre B i a < pre B i b) : a < b := by
  rcases Nat.lt_or_ge a b with h' | h'
  · exact h'
  · have := pre_mono (B := B) (i := i) h'; omega
/-- Keys that part stay parted. -/
theorem pre_ne {B a b : Nat} : ∀ {i j : Nat}, i ≤ j → j ≤ B → pre B i a ≠ pre B i b → pre B j a ≠ pre B j b
  | i, 0, h, _, hn => by have : i = 0 := by omega
                         subst this; exact hn
  | i, j + 1, h, hj, hn => by
    rcases Nat.lt_or_ge j i with h' | h'
    · have : i = j + 1 := by omega
      subst this; exact hn
    · intro e
      have := pre_ne h' (by omega) hn
      rw [← pre_succ (by omega), ← pre_succ (k := b) (by omega), e] at this
      exact this rfl

abbrev Nd := Nat → Nat → Option Nat
section
variable (B : Nat) (N : Nd) (c : Nd) (mn mx : Option Nat)
def In (y : Nat) : Prop := ∃ j p, j < B ∧ N j p = some y
def Lf (s l : Nat) : Prop := ∃ k, N B k = some l ∧ (s = 0 → mx ≠ some k) ∧ (s = 1 → mn ≠ some k)
structure T0 : Prop where
  b0 : 0 < B
  rt : ∃ r, N 0 0 = some r
  rng : ∀ {i p x}, N i p = some x → i ≤ B ∧ p < 2 ^ i
  clo : ∀ {i q y}, N (i + 1) q = some y → ∃ z, N i (q / 2) = some z
  ex : ∀ {i p x}, N i p = some x → 0 < i → i < B → ∃ s, s < 2 ∧ ∃ y, N (i + 1) (2 * p + s) = some y
  inj : ∀ {i j p q x}, N i p = some x → N j q = some x → i = j ∧ p = q
  ch : ∀ {i p x s y}, N i p = some x → s < 2 → i + 1 < B → N (i + 1) (2 * p + s) = some y → c x s = some y
  chl : ∀ {i p x s y}, N i p = some x → s < 2 → i + 1 = B → N (i + 1) (2 * p + s) = some y → ∃ l, c x s = some l ∧ (l = y ∨ Lf B N mn mx s l)
  th : ∀ {i p x s l}, N i p = some x → s < 2 → i < B → N (i + 1) (2 * p + s) = none → c x s = some l → Lf B N mn mx s l
  lf : ∀ {k x s l}, N B k = some x → s < 2 → c x s = some l → Lf B N mn mx s l
  mnc : ∀ {k x}, mn = some k → N B k = some x → c x 0 = none
  mn0 : mn = none → ∀ k, N B k = none
  mn1 : ∀ {k}, mn = some k → (∃ x, N B k = some x) ∧ ∀ {k' x}, N B k' = some x → k ≤ k'
  mx0 : mx = none → ∀ k, N B k = none
  mx1 : ∀ {k}, mx = some k → (∃ x, N B k = some x) ∧ ∀ {k' x}, N B k' = some x → k' ≤ k
structure Nl : Prop where
  l0 : ∀ {k x}, N B k = some x → c x 0 = none → mn = some k
  l1 : ∀ {k x}, N B k = some x → c x 1 = none → mx = some k
  t0 : ∀ {i p x a}, N i p = some x → i < B → N (i + 1) (2 * p) = none → c x 0 = none → mn = some a → pre B i a = p
  t1 : ∀ {i p x a}, N i p = some x → i < B → N (i + 1) (2 * p + 1) = none → c x 1 = none → mx = some a → pre B i a = p
end
section
variable {B : Nat} {N : Nd} {c : Nd} {mn mx : Option Nat}
theorem T0.notIn (T : T0 B N c mn mx) {k x : Nat} (h : N B k = some x) : ¬ In B N x := fun ⟨j, p, hj, h2⟩ => by
  have := (T.inj h h2).1; omega
theorem Lf.notIn (T : T0 B N c mn mx) {s l : Nat} (h : Lf B N mn mx s l) : ¬ In B N l := by
  obtain ⟨k, hk, _⟩ := h
  exact T.notIn hk
/-- All prefixes of a key have nodes. -/
theorem T0.up (T : T0 B N c mn mx) {k : Nat} : ∀ {n i j : Nat} {x : Nat}, n = j - i → i ≤ j → j ≤ B → N j (pre B j k) = some x → ∃ z, N i (pre B i k) = some z
  | 0, i, j, x, hn, hi, hj, h => by
    have : i = j := by omega
    subst this; exact ⟨x, h⟩
  | n + 1, i, j, x, hn, hi, hj, h => by
    obtain ⟨j, rfl⟩ : ∃ j', j = j' + 1 := ⟨j - 1, by omega⟩
    obtain ⟨z, hz⟩ := T.clo h
    rw [pre_succ (by omega)] at hz
    exact T.up (n := n) (by omega) (by omega) (by omega) hz
theorem T0.path (T : T0 B N c mn mx) {k i x : Nat} (hi : i ≤ B) (h : N B k = some x) : ∃ z, N i (pre B i k) = some z :=
  T.up (n := B - i) rfl hi (Nat.le_refl _) (by rw [pre_all]; exact h)
theorem T0.klt (T : T0 B N c mn mx) {k x : Nat} (h : N B k = some x) : k < 2 ^ B := (T.rng h).2
/-- The deepest node of a key that is not there, and its other side. -/
theorem T0.other (T : T0 B N c mn mx) {k a i x xa : Nat} (hk : k < 2 ^ B) (hi : i < B) (hx : N i (pre B i k) = some x) (hn : N (i + 1) (pre B (i + 1) k) = none) (ha : N B a = some xa) : ∃ y, N (i + 1) (2 * pre B i k + (1 - bit B i k)) = some y := by
  have hb := bit_lt B i k
  have hpb := pre_bit (B := B) (k := k) hi
  rcases Nat.eq_zero_or_pos i with h0 | h0
  · subst h0
    obtain ⟨z, hz⟩ := T.path (i := 1) (by omega) ha
    have h1 := (T.rng hz).2
    have h2 := pre_lt (B := B) (i := 0 + 1) (by omega) hk
    have h3 := pre_zero hk
    have : pre B 1 a ≠ pre B (0 + 1) k := fun e => by rw [← e] at hn; rw [show (0 + 1) = 1 from rfl, hz] at hn; cases hn
    have e : pre B 1 a = 2 * pre B 0 k + (1 - bit B 0 k) := by
      simp only [Nat.zero_add] at *
      omega
    exact ⟨z, by rw [← e]; exact hz⟩
  · obtain ⟨s, hs, y, hy⟩ := T.ex hx h0 hi
    have : s ≠ bit B i k := fun e => by rw [e, hpb, hn] at hy; cases hy
    have e : s = 1 - bit B i k := by omega
    exact ⟨y, by rw [← e]; exact hy⟩
/-- What successor(key) gives, between the least and the greatest key. -/
theorem T0.succ (T : T0 B N c mn mx) (M : Nl B N c mn mx) {k a b i x : Nat} (hk : k < 2 ^ B) (hi : i < B) (hx : N i (pre B i k) = some x) (hn : N (i + 1) (pre B (i + 1) k) = none)
    (ha : mn = some a) (hb : mx = some b) (hak : a < k) (hkb : k < b) :
    (∃ l, c x 1 = some l ∧ ¬ In B N l ∧ ∃ q, N B q = some l ∧ q ≠ a) ∨
    (∃ y l0 l, c x 1 = some y ∧ In B N y ∧ c x 0 = some l0 ∧ (∃ q, N B q = some l0) ∧ c l0 1 = some l ∧ ∃ q, N B q = some l ∧ q ≠ a) := by
  obtain ⟨⟨xa, hxa⟩, hmin⟩ := T.mn1 ha
  obtain ⟨⟨xb, hxb⟩, hmax⟩ := T.mx1 hb
  obtain ⟨y, hy⟩ := T.other hk hi hx hn hxa
  have hpb := pre_bit (B := B) (k := k) hi
  have hbl := bit_lt B i k
  have lf1 : ∀ {l}, Lf B N mn mx 1 l → ∃ q, N B q = some l ∧ q ≠ a := fun ⟨q, h1, _, h3⟩ => ⟨q, h1, fun e => h3 rfl (by rw [e]; exact ha)⟩
  rcases Nat.lt_or_ge (bit B i k) 1 with h0 | h0
  · -- to the left
    have h0 : bit B i k = 0 := by omega
    rw [h0] at hpb hy
    simp only [Nat.add_zero, Nat.sub_zero] at hpb hy
    cases hc0 : c x 0 with
    | none =>
      have e := M.t0 hx hi (by rw [hpb]; exact hn) hc0 ha
      obtain ⟨z, hz⟩ := T.path (i := i + 1) (by omega) hxa
      have h1 := pre_bit (B := B) (k := a) hi
      have h2 := bit_lt B i a
      rw [e] at h1
      have : bit B i a ≠ 0 := fun h => by rw [h, Nat.add_zero, hpb] at h1; rw [← h1, hn] at hz; cases hz
      have : pre B (i + 1) k < pre B (i + 1) a := by omega
      have := lt_of_pre this; omega
    | some l0 =>
      obtain ⟨q0, hq0, hq1, _⟩ := T.th hx (by decide : 0 < 2) hi (by rw [Nat.add_zero, hpb]; exact hn) hc0
      rcases Nat.lt_or_ge (i + 1) B with hl | hl
      · refine .inr ?_
        have hc1 := T.ch hx (by decide : 1 < 2) hl hy
        cases hcl : c l0 1 with
        | none => exact absurd (M.l1 hq0 hcl) (hq1 rfl)
        | some l => exact ⟨y, l0, l, hc1, ⟨i + 1, _, hl, hy⟩, rfl, ⟨q0, hq0⟩, hcl, lf1 (T.lf hq0 (by decide) hcl)⟩
      · have hl : i + 1 = B := by omega
        obtain ⟨l, hcl, h⟩ := T.chl hx (by decide : 1 < 2) hl hy
        refine .inl ⟨l, hcl, ?_⟩
        rcases h with rfl | h
        · subst hl
          refine ⟨T.notIn hy, _, hy, ?_⟩
          rw [hpb, pre_all]; omega
        · exact ⟨h.notIn T, lf1 h⟩
  · have h1 : bit B i k = 1 := by omega
    rw [h1] at hpb hy
    simp only [Nat.sub_self, Nat.add_zero] at hy
    cases hc1 : c x 1 with
    | none =>
      have e := M.t1 hx hi (by rw [hpb]; exact hn) hc1 hb
      obtain ⟨z, hz⟩ := T.path (i := i + 1) (by omega) hxb
      have h1 := pre_bit (B := B) (k := b) hi
      have h2 := bit_lt B i b
      rw [e] at h1
      have : bit B i b ≠ 1 := fun h => by rw [h, hpb] at h1; rw [← h1, hn] at hz; cases hz
      have : pre B (i + 1) b < pre B (i + 1) k := by omega
      have := lt_of_pre this; omega
    | some l =>
      have h := T.th hx (by decide : 1 < 2) hi (by rw [hpb]; exact hn) hc1
      exact .inl ⟨l, rfl, h.notIn T, lf1 h⟩
end
end Go.Proofs.YtaacaokocamlcaaDoor.E

namespace Go.Proofs.YtaacaokocamlcaaDoor.E
open Go
set_option linter.unusedSimpArgs false
set_option linter.unusedVariables false

def sput (c : Nd) (x s : Nat) (v : Option Nat) : Nd := fun x' s' => if x' = x ∧ s' = s then v else c x' s'
theorem sput_same (c : Nd) (x s : Nat) (v : Option Nat) : sput c x s v x s = v := by simp [sput]
theorem sput_ne (c : Nd) (x s : Nat) (v : Option Nat) {x' s' : Nat} (h : x' ≠ x ∨ s' ≠ s) : sput c x s v x' s' = c x' s' := by
  unfold sput; rw [if_neg (by omega)]
section
variable {B : Nat} {N : Nd} {c : Nd} {mn mx : Option Nat}
/-- A side of an inner node is written. -/
theorem T0.wrI (T : T0 B N c mn mx) {i p x s : Nat} {v : Option Nat} (hx : N i p = some x) (hi : i < B) (hs : s < 2) (hv : ∀ l, v = some l → Lf B N mn mx s l) (hc : N (i + 1) (2 * p + s) = none ∨ i + 1 = B ∧ v ≠ none) : T0 B N (sput c x s v) mn mx := by
  have at' : ∀ {i' p' x' s'}, N i' p' = some x' → sput c x s v x' s' = c x' s' ∨ (i' = i ∧ p' = p ∧ s' = s ∧ x' = x ∧ sput c x s v x' s' = v) := fun {i' p' x' s'} h => by
    by_cases e : x' = x ∧ s' = s
    · obtain ⟨rfl, rfl⟩ := e
      obtain ⟨e1, e2⟩ := T.inj h hx
      exact .inr ⟨e1, e2, rfl, rfl, sput_same ..⟩
    · exact .inl (by unfold sput; rw [if_neg e])
  refine ⟨T.b0, T.rt, T.rng, T.clo, T.ex, T.inj, fun {i' p' x' s' y} h h2 h3 h4 => ?_, fun {i' p' x' s' y} h h2 h3 h4 => ?_, fun {i' p' x' s' l} h h2 h3 h4 h5 => ?_, fun {k x' s' l} h h2 h3 => ?_, fun {k x'} h h2 => ?_, T.mn0, T.mn1, T.mx0, T.mx1⟩
  · rcases at' (s' := s') h with e | ⟨rfl, rfl, rfl, rfl, e⟩
    · rw [e]; exact T.ch h h2 h3 h4
    · rcases hc with hc | ⟨hc, _⟩
      · rw [hc] at h4; cases h4
      · omega
  · rcases at' (s' := s') h with e | ⟨rfl, rfl, rfl, rfl, e⟩
    · rw [e]; exact T.chl h h2 h3 h4
    · rcases hc with hc | ⟨_, hc⟩
      · rw [hc] at h4; cases h4
      · obtain ⟨l, rfl⟩ := Option.ne_none_iff_exists'.1 hc
        exact ⟨l, e, .inr (hv l rfl)⟩
  · rcases at' (s' := s') h with e | ⟨rfl, rfl, rfl, rfl, e⟩
    · rw [e] at h5; exact T.th h h2 h3 h4 h5
    · rw [e] at h5; exact hv l h5
  · rcases at' (s' := s') h with e | ⟨rfl, rfl, rfl, rfl, e⟩
    · rw [e] at h3; exact T.lf h h2 h3
    · omega
  · rcases at' (s' := 0) h2 with e | ⟨rfl, rfl, rfl, rfl, e⟩
    · rw [e]; exact T.mnc h h2
    · omega
/-- A side of a leaf is written. -/
theorem T0.wrL (T : T0 B N c mn mx) {k x s : Nat} {v : Option Nat} (hx : N B k = some x) (hs : s < 2) (hv : ∀ l, v = some l → Lf B N mn mx s l) (hm : s = 0 → mn = some k → v = none) : T0 B N (sput c x s v) mn mx := by
  have at' : ∀ {i' p' x' s'}, N i' p' = some x' → sput c x s v x' s' = c x' s' ∨ (i' = B ∧ p' = k ∧ s' = s ∧ x' = x ∧ sput c x s v x' s' = v) := fun {i' p' x' s'} h => by
    by_cases e : x' = x ∧ s' = s
    · obtain ⟨rfl, rfl⟩ := e
      obtain ⟨e1, e2⟩ := T.inj h hx
      exact .inr ⟨e1, e2, rfl, rfl, sput_same ..⟩
    · exact .inl (by unfold sput; rw [if_neg e])
  refine ⟨T.b0, T.rt, T.rng, T.clo, T.ex, T.inj, fun {i' p' x' s' y} h h2 h3 h4 => ?_, fun {i' p' x' s' y} h h2 h3 h4 => ?_, fun {i' p' x' s' l} h h2 h3 h4 h5 => ?_, fun {k' x' s' l} h h2 h3 => ?_, fun {k' x'} h h2 => ?_, T.mn0, T.mn1, T.mx0, T.mx1⟩
  · rcases at' (s' := s') h with e | ⟨rfl, rfl, rfl, rfl, e⟩
    · rw [e]; exact T.ch h h2 h3 h4
    · omega
  · rcases at' (s' := s') h with e | ⟨rfl, rfl, rfl, rfl, e⟩
    · rw [e]; exact T.chl h h2 h3 h4
    · omega
  · rcases at' (s' := s') h with e | ⟨rfl, rfl, rfl, rfl, e⟩
    · rw [e] at h5; exact T.th h h2 h3 h4 h5
    · omega
  · rcases at' (s' := s') h with e | ⟨_, rfl, rfl, rfl, e⟩
    · rw [e] at h3; exact T.lf h h2 h3
    · rw [e] at h3; exact hv l h3
  · rcases at' (s' := 0) h2 with e | ⟨_, rfl, rfl, rfl, e⟩
    · rw [e]; exact T.mnc h h2
    · rw [e]; exact hm rfl h
def lo (mn : Option Nat) (k : Nat) : Nat := match mn with | none => k | some a => if k < a then k else a
def hi (mx : Option Nat) (k : Nat) : Nat := match mx with | none => k | some a => if a < k then k else a
/-- Nodes with a key's path behind the i-th prefix. -/
def grow (B : Nat) (N : Nd) (k i0 : Nat) (ys : Nat → Nat) : Nd := fun j q => if i0 < j ∧ j ≤ B ∧ q = pre B j k then some (ys j) else N j q
structure Made (B : Nat) (N c c' : Nd) (k i0 x0 : Nat) (ys : Nat → Nat) : Prop where
  kl : k < 2 ^ B
  il : i0 < B
  hx : N i0 (pre B i0 k) = some x0
  no : N (i0 + 1) (pre B (i0 + 1) k) = none
  fr : ∀ {j i p}, i0 < j → j ≤ B → N i p ≠ some (ys j)
  yi : ∀ {i j}, i0 < i → i ≤ B → i0 < j → j ≤ B → ys i = ys j → i = j
  co : ∀ {i p x s}, N i p = some x → (x ≠ x0 ∨ s ≠ bit B i0 k) → c' x s = c x s
  cx : c' x0 (bit B i0 k) = some (ys (i0 + 1))
  cn : ∀ {j}, i0 < j → j < B → c' (ys j) (bit B j k) = some (ys (j + 1))
  cm : ∀ {j s}, i0 < j → j < B → s < 2 → s ≠ bit B j k → c' (ys j) s = none
  cl : ∀ {s}, s < 2 → c' (ys B) s = none
section
variable {c' : Nd} {k i0 x0 : Nat} {ys : Nat → Nat}
theorem Made.none (M : Made B N c c' k i0 x0 ys) (T : T0 B N c mn mx) {j : Nat} (h1 : i0 < j) (h2 : j ≤ B) : N j (pre B j k) = .none := by
  cases h : N j (pre B j k) with
  | none => rfl
  | some z =>
    obtain ⟨z', hz'⟩ := T.up (i := i0 + 1) rfl (by omega) h2 h
    rw [M.no] at hz'; cases hz'
theorem Made.grow (M : Made B N c c' k i0 x0 ys) (T : T0 B N c mn mx) {j q z : Nat} : grow B N k i0 ys j q = some z ↔ (i0 < j ∧ j ≤ B ∧ q = pre B j k ∧ z = ys j) ∨ N j q = some z := by
  unfold E.grow
  by_cases h : i0 < j ∧ j ≤ B ∧ q = pre B j k
  · rw [if_pos h]
    obtain ⟨h1, h2, rfl⟩ := h
    rw [M.none T h1 h2]
    exact ⟨fun e => .inl ⟨h1, h2, rfl, (Option.some.inj e).symm⟩, fun e => e.elim (fun e => by rw [e.2.2.2]) (fun e => by cases e)⟩
  · rw [if_neg h]
    exact ⟨.inr, fun e => e.elim (fun e => absurd ⟨e.1, e.2.1, e.2.2.1⟩ h) id⟩
theorem Made.leaf (M : Made B N c c' k i0 x0 ys) (T : T0 B N c mn mx) : E.grow B N k i0 ys B k = some (ys B) := (M.grow T).2 (.inl ⟨M.il, Nat.le_refl _, (pre_all B k).symm, rfl⟩)
theorem Made.lfm (M : Made B N c c' k i0 x0 ys) (T : T0 B N c mn mx) {s l : Nat} (h : Lf B N mn mx s l) : Lf B (E.grow B N k i0 ys) (some (lo mn k)) (some (hi mx k)) s l := by
  obtain ⟨q, h1, h2, h3⟩ := h
  have hne : q ≠ k := fun e => by
    have := M.none T M.il (Nat.le_refl B)
    rw [pre_all] at this; rw [e, this] at h1; cases h1
  refine ⟨q, (M.grow T).2 (.inr h1), fun hs e => ?_, fun hs e => ?_⟩
  · have := h2 hs
    cases mx with
    | none => rw [T.mx0 rfl] at h1; cases h1
    | some b =>
      simp only [hi, Option.some.injEq] at e
      split at e
      · exact hne e.symm
      · exact this (by rw [e])
  · have := h3 hs
    cases mn with
    | none => rw [T.mn0 rfl] at h1; cases h1
    | some b =>
      simp only [lo, Option.some.injEq] at e
      split at e
      · exact hne e.symm
      · exact this (by rw [e])
theorem Made.t0 (M : Made B N c c' k i0 x0 ys) (T : T0 B N c mn mx) : T0 B (E.grow B N k i0 ys) c' (some (lo mn k)) (some (hi mx k)) := by
  have G : ∀ {j q z}, E.grow B N k i0 ys j q = some z ↔ (i0 < j ∧ j ≤ B ∧ q = pre B j k ∧ z = ys j) ∨ N j q = some z := M.grow T
  have leafs : ∀ {q z}, E.grow B N k i0 ys B q = some z ↔ (q = k ∧ z = ys B) ∨ N B q = some z := fun {q z} => by
    rw [G, pre_all]
    exact ⟨fun h => h.imp (fun h => ⟨h.2.2.1, h.2.2.2⟩) id, fun h => h.imp (fun h => ⟨M.il, Nat.le_refl _, h.1, h.2⟩) id⟩
  have kid : ∀ {i p s x}, N i p = some x → s < 2 → i < B → i0 < i + 1 → 2 * p + s = pre B (i + 1) k → i = i0 ∧ x = x0 ∧ s = bit B i0 k := fun {i p s x} h hs hi h1 h2 => by
    have hp : p = pre B i k := by rw [← pre_succ hi, ← h2]; omega
    rcases Nat.lt_or_ge i0 i with h3 | h3
    · rw [hp, M.none T h3 (by omega)] at h; cases h
    · have : i = i0 := by omega
      subst this
      rw [hp, M.hx] at h
      have := pre_bit (B := B) (k := k) hi
      exact ⟨rfl, by cases h; rfl, by omega⟩
  have slot : ∀ {i p s x}, N i p = some x → x = x0 → s = bit B i0 k → i = i0 ∧ 2 * p + s = pre B (i0 + 1) k := fun {i p s x} h h1 h2 => by
    subst h1 h2
    obtain ⟨rfl, rfl⟩ := T.inj h M.hx
    exact ⟨rfl, pre_bit M.il⟩
  have slot' : ∀ {i p s x}, N i p = some x → (x ≠ x0 ∨ s ≠ bit B i0 k) ∨ (x = x0 ∧ s = bit B i0 k) := fun {i p s x} h => by omega
  refine ⟨T.b0, ?_, fun {i p x} h => ?_, fun {i q y} h => ?_, fun {i p x} h h0 hi => ?_, fun {i j p q x} h h2 => ?_, fun {i p x s y} h hs hi h2 => ?_, fun {i p x s y} h hs hi h2 => ?_, fun {i p x s l} h hs hi h2 h3 => ?_, fun {q x s l} h hs h2 => ?_, fun {q x} h h2 => ?_, (fun h => by cases h), fun {a} h => ?_, (fun h => by cases h), fun {a} h => ?_⟩
  · obtain ⟨r, hr⟩ := T.rt
    exact ⟨r, G.2 (.inr hr)⟩
  · rcases G.1 h with ⟨h1, h2, rfl, _⟩ | h
    · exact ⟨h2, pre_lt h2 M.kl⟩
    · exact T.rng h
  · rcases G.1 h with ⟨h1, h2, rfl, _⟩ | h
    · rw [pre_succ (by omega)]
      rcases Nat.lt_or_ge i0 i with h3 | h3
      · exact ⟨_, G.2 (.inl ⟨h3, by omega, rfl, rfl⟩)⟩
      · have : i = i0 := by omega
        subst this
        exact ⟨_, G.2 (.inr M.hx)⟩
    · obtain ⟨z, hz⟩ := T.clo h
      exact ⟨z, G.2 (.inr hz)⟩
  · rcases G.1 h with ⟨h1, h2, rfl, _⟩ | h
    · exact ⟨bit B i k, bit_lt _ _ _, ys (i + 1), G.2 (.inl ⟨by omega, by omega, pre_bit hi, rfl⟩)⟩
    · obtain ⟨s, hs, y, hy⟩ := T.ex h h0 hi
      exact ⟨s, hs, y, G.2 (.inr hy)⟩
  · rcases G.1 h with ⟨h1, h3, rfl, rfl⟩ | h <;> rcases G.1 h2 with ⟨h4, h5, rfl, h6⟩ | h2
    · have := M.yi h1 h3 h4 h5 h6
      subst this; exact ⟨rfl, rfl⟩
    · exact absurd h2 (M.fr h1 h3)
    · subst h6; exact absurd h (M.fr h4 h5)
    · exact T.inj h h2
  · rcases G.1 h with ⟨h1, h3, rfl, rfl⟩ | h
    · rcases G.1 h2 with ⟨h4, h5, h6, rfl⟩ | h2
      · have := pre_bit (B := B) (k := k) (i := i) (by omega)
        have e : s = bit B i k := by omega
        rw [e]; exact M.cn h1 (by omega)
      · obtain ⟨z, hz⟩ := T.clo h2
        rw [show (2 * pre B i k + s) / 2 = pre B i k by omega, M.none T h1 h3] at hz; cases hz
    · rcases G.1 h2 with ⟨h4, h5, h6, rfl⟩ | h7
      · obtain ⟨rfl, rfl, rfl⟩ := kid h hs (by omega) h4 h6
        exact M.cx
      · rcases slot' (s := s) h with e | ⟨e1, e2⟩
        · rw [M.co h e]; exact T.ch h hs hi h7
        · obtain ⟨rfl, e3⟩ := slot h e1 e2
          rw [e3, M.no] at h7; cases h7
  · rcases G.1 h with ⟨h1, h3, rfl, rfl⟩ | h
    · rcases G.1 h2 with ⟨h4, h5, h6, rfl⟩ | h2
      · have := pre_bit (B := B) (k := k) (i := i) (by omega)
        have e : s = bit B i k := by omega
        rw [e]; exact ⟨_, M.cn h1 (by omega), .inl rfl⟩
      · obtain ⟨z, hz⟩ := T.clo h2
        rw [show (2 * pre B i k + s) / 2 = pre B i k by omega, M.none T h1 h3] at hz; cases hz
    · rcases G.1 h2 with ⟨h4, h5, h6, rfl⟩ | h7
      · obtain ⟨rfl, rfl, rfl⟩ := kid h hs (by omega) h4 h6
        exact ⟨_, M.cx, .inl rfl⟩
      · rcases slot' (s := s) h with e | ⟨e1, e2⟩
        · rw [M.co h e]
          obtain ⟨l, hl, hl2⟩ := T.chl h hs hi h7
          exact ⟨l, hl, hl2.imp id (M.lfm T)⟩
        · obtain ⟨rfl, e3⟩ := slot h e1 e2
          rw [e3, M.no] at h7; cases h7
  · rcases G.1 h with ⟨h1, h4, rfl, rfl⟩ | h
    · by_cases e : s = bit B i k
      · have : E.grow B N k i0 ys (i + 1) (2 * pre B i k + s) = some (ys (i + 1)) := G.2 (.inl ⟨by omega, by omega, by rw [e]; exact pre_bit hi, rfl⟩)
        rw [h2] at this; cases this
      · rw [M.cm h1 hi hs e] at h3; cases h3
    · have hn : N (i + 1) (2 * p + s) = .none := by
        cases hh : N (i + 1) (2 * p + s) with
        | none => rfl
        | some z => rw [G.2 (.inr hh)] at h2; cases h2
      rcases slot' (s := s) h with e | ⟨e1, e2⟩
      · rw [M.co h e] at h3; exact M.lfm T (T.th h hs hi hn h3)
      · obtain ⟨rfl, e3⟩ := slot h e1 e2
        rw [G.2 (.inl ⟨by omega, by omega, e3, rfl⟩)] at h2; cases h2
  · rcases leafs.1 h with ⟨rfl, rfl⟩ | h
    · rw [M.cl hs] at h2; cases h2
    · have hx : x ≠ x0 := fun e => by subst e; have := (T.inj h M.hx).1; have := M.il; omega
      rw [M.co h (.inl hx)] at h2
      exact M.lfm T (T.lf h hs h2)
  · rcases leafs.1 h2 with ⟨rfl, rfl⟩ | h2
    · exact M.cl (by decide)
    · have hx : x ≠ x0 := fun e => by subst e; have := (T.inj h2 M.hx).1; have := M.il; omega
      rw [M.co h2 (.inl hx)]
      cases mn with
      | none => rw [T.mn0 rfl] at h2; cases h2
      | some a =>
        simp only [lo, Option.some.injEq] at h
        split at h
        · subst h
          have := M.none T M.il (Nat.le_refl B)
          rw [pre_all, h2] at this; cases this
        · subst h; exact T.mnc rfl h2
  · cases h
    cases mn with
    | none =>
      refine ⟨⟨_, M.leaf T⟩, fun {k' x} hk' => ?_⟩
      rcases leafs.1 hk' with ⟨rfl, _⟩ | h
      · exact Nat.le_refl _
      · rw [T.mn0 rfl] at h; cases h
    | some a =>
      obtain ⟨⟨xa, hxa⟩, hm⟩ := T.mn1 rfl
      simp only [lo]
      split
      · refine ⟨⟨_, M.leaf T⟩, fun {k' x} hk' => ?_⟩
        rcases leafs.1 hk' with ⟨rfl, _⟩ | h
        · exact Nat.le_refl _
        · have := hm h; omega
      · refine ⟨⟨xa, leafs.2 (.inr hxa)⟩, fun {k' x} hk' => ?_⟩
        rcases leafs.1 hk' with ⟨rfl, _⟩ | h
        · omega
        · exact hm h
  · cases h
    cases mx with
    | none =>
      refine ⟨⟨_, M.leaf T⟩, fun {k' x} hk' => ?_⟩
      rcases leafs.1 hk' with ⟨rfl, _⟩ | h
      · exact Nat.le_refl _
      · rw [T.mx0 rfl] at h; cases h
    | some a =>
      obtain ⟨⟨xa, hxa⟩, hm⟩ := T.mx1 rfl
      simp only [hi]
      split
      · refine ⟨⟨_, M.leaf T⟩, fun {k' x} hk' => ?_⟩
        rcases leafs.1 hk' with ⟨rfl, _⟩ | h
        · exact Nat.le_refl _
        · have := hm h; omega
      · refine ⟨⟨xa, leafs.2 (.inr hxa)⟩, fun {k' x} hk' => ?_⟩
        rcases leafs.1 hk' with ⟨rfl, _⟩ | h
        · omega
        · exact hm h
end
end
end Go.Proofs.YtaacaokocamlcaaDoor.E
