/-
  An x-fast trie, plain: what holds again when a key is in.
-/
import Derived.Test.YtaacaokocamlcaaDoorX1
namespace Go.Proofs.YtaacaokocamlcaaDoor.E
open Go
set_option linter.unusedSimpArgs false
set_option linter.unusedVariables false

section
variable {B : Nat} {N c c1 c5 : Nd} {mn mx sv pv : Option Nat} {k i0 x0 : Nat} {ys : Nat → Nat}
/-- Below each inner node there is a leaf. -/
theorem T0.down (T : T0 B N c mn mx) : ∀ {n i p x : Nat}, n = B - i → 0 < i → N i p = some x → ∃ q l, N B q = some l
  | 0, i, p, x, hn, hi, h => by
    have := (T.rng h).1
    have e : i = B := by omega
    subst e; exact ⟨p, x, h⟩
  | n + 1, i, p, x, hn, hi, h => by
    obtain ⟨s, _, y, hy⟩ := T.ex h hi (by omega)
    exact T.down (n := n) (by omega) (by omega) hy
structure Put (B : Nat) (N c1 c5 : Nd) (mn mx sv pv : Option Nat) (k i0 : Nat) (ys : Nat → Nat) : Prop where
  hE : mn = none → sv = none ∧ pv = none
  hL : ∀ a, mn = some a → k < a → ∃ l, N B a = some l ∧ sv = some l ∧ pv = none
  hG : ∀ b, mx = some b → b < k → ∃ l, N B b = some l ∧ pv = some l ∧ sv = none
  hM : ∀ a b, mn = some a → mx = some b → a < k → k < b → sv ≠ none ∧ pv ≠ none
  a0 : c5 (ys B) 0 = pv
  a1 : c5 (ys B) 1 = sv
  al : ∀ q l s, N B q = some l → c1 l s ≠ none → c5 l s ≠ none
  as : ∀ l, sv = some l → c5 l 0 ≠ none
  ap : ∀ l, pv = some l → c5 l 1 ≠ none
  ai : ∀ i p x s, 0 < i → i < B → N i p = some x → c1 x s ≠ none → c5 x s ≠ none
  ws : ∀ l q j z, sv = some l → N B q = some l → j < B → pre B j q ≠ pre B j k → N j (pre B j q) = some z → c5 z 0 ≠ none
  wp : ∀ l q j z, pv = some l → N B q = some l → j < B → pre B j q ≠ pre B j k → N j (pre B j q) = some z → c5 z 1 ≠ none
  nw : ∀ j, i0 < j → j < B → (c5 (ys j) 1 = none → sv = none) ∧ (c5 (ys j) 0 = none → pv = none)
theorem Put.nl (P : Put B N c1 c5 mn mx sv pv k i0 ys) (T : T0 B N c mn mx) (M : Nl B N c mn mx) (Md : Made B N c c1 k i0 x0 ys) : Nl B (E.grow B N k i0 ys) c5 (some (lo mn k)) (some (hi mx k)) := by
  have G : ∀ {j q z}, E.grow B N k i0 ys j q = some z ↔ (i0 < j ∧ j ≤ B ∧ q = pre B j k ∧ z = ys j) ∨ N j q = some z := Md.grow T
  have hno : N B k = none := by have := Md.none T Md.il (Nat.le_refl B); rwa [pre_all] at this
  have nek : ∀ {q l}, N B q = some l → q ≠ k := fun h e => by rw [e, hno] at h; cases h
  have lok : pv = none → lo mn k = k := fun hp => by
    cases hm : mn with
    | none => rfl
    | some a =>
      unfold lo
      show (if k < a then k else a) = k
      obtain ⟨⟨xa, hxa⟩, hmin⟩ := T.mn1 hm
      have := nek hxa
      split
      · rfl
      · cases hx : mx with
        | none => rw [T.mx0 hx] at hxa; cases hxa
        | some b =>
          obtain ⟨⟨xb, hxb⟩, _⟩ := T.mx1 hx
          have := nek hxb
          rcases Nat.lt_or_ge b k with h | h
          · obtain ⟨l, _, h2, _⟩ := P.hG b hx h
            rw [hp] at h2; cases h2
          · exact absurd hp (P.hM a b hm hx (by omega) (by omega)).2
  have hik : sv = none → hi mx k = k := fun hp => by
    cases hm : mx with
    | none => rfl
    | some b =>
      unfold hi
      show (if b < k then k else b) = k
      obtain ⟨⟨xb, hxb⟩, hmax⟩ := T.mx1 hm
      have := nek hxb
      split
      · rfl
      · cases hx : mn with
        | none => rw [T.mn0 hx] at hxb; cases hxb
        | some a =>
          obtain ⟨⟨xa, hxa⟩, _⟩ := T.mn1 hx
          have := nek hxa
          rcases Nat.lt_or_ge k a with h | h
          · obtain ⟨l, _, h2, _⟩ := P.hL a hx h
            rw [hp] at h2; cases h2
          · exact absurd hp (P.hM a b hx hm (by omega) (by omega)).1
  have lf1 : ∀ {q l s}, N B q = some l → c1 l s = c l s := fun {q l s} h => Md.co h (.inl fun e => by subst e; have := (T.inj h Md.hx).1; have := Md.il; omega)
  have old : ∀ {i p x s}, 0 < i → i < B → N i p = some x → c5 x s = none → c x s = none := fun {i p x s} h1 h2 h h5 => by
    cases hc : c1 x s with
    | some t => exact absurd h5 (P.ai i p x s h1 h2 h (by rw [hc]; simp))
    | none =>
      by_cases e : x = x0 ∧ s = bit B i0 k
      · rw [e.1, e.2, Md.cx] at hc; cases hc
      · rw [← Md.co h (by omega)]; exact hc
  refine ⟨fun {q x} h h5 => ?_, fun {q x} h h5 => ?_, fun {i p x a} h hi' hn h5 ha => ?_, fun {i p x a} h hi' hn h5 ha => ?_⟩
  · rcases G.1 h with ⟨_, _, rfl, rfl⟩ | h
    · rw [pre_all]
      rw [P.a0] at h5
      rw [lok h5]
    · have h0 : c x 0 = none := by
        cases hc : c1 x 0 with
        | some t => exact absurd h5 (P.al q x 0 h (by rw [hc]; simp))
        | none => rw [← lf1 h]; exact hc
      have hm := M.l0 h h0
      rw [hm]
      unfold lo
      show some (if k < q then k else q) = some q
      split
      · rename_i hlt
        obtain ⟨l, h1, h2, _⟩ := P.hL q hm hlt
        rw [h] at h1; cases h1
        exact absurd h5 (P.as x h2)
      · rfl
  · rcases G.1 h with ⟨_, _, rfl, rfl⟩ | h
    · rw [pre_all]
      rw [P.a1] at h5
      rw [hik h5]
    · have h0 : c x 1 = none := by
        cases hc : c1 x 1 with
        | some t => exact absurd h5 (P.al q x 1 h (by rw [hc]; simp))
        | none => rw [← lf1 h]; exact hc
      have hm := M.l1 h h0
      rw [hm]
      unfold hi
      show some (if q < k then k else q) = some q
      split
      · rename_i hlt
        obtain ⟨l, h1, h2, _⟩ := P.hG q hm hlt
        rw [h] at h1; cases h1
        exact absurd h5 (P.ap x h2)
      · rfl
  · cases ha
    rcases G.1 h with ⟨h1, _, rfl, rfl⟩ | h
    · rw [lok ((P.nw i h1 hi').2 h5)]
    · rcases Nat.eq_zero_or_pos i with h0 | h0
      · subst h0
        have hp := (T.rng h).2
        have : lo mn k < 2 ^ B := by
          cases hm : mn with
          | none => exact Md.kl
          | some a =>
            obtain ⟨⟨xa, hxa⟩, _⟩ := T.mn1 hm
            have := T.klt hxa
            have := Md.kl
            unfold lo
            show (if k < a then k else a) < _
            split <;> assumption
        rw [pre_zero this]; omega
      · have hn' : N (i + 1) (2 * p) = none := by
          cases hh : N (i + 1) (2 * p) with
          | none => rfl
          | some z => rw [G.2 (.inr hh)] at hn; cases hn
        cases hm : mn with
        | none =>
          obtain ⟨q, l, hl⟩ := T.down rfl h0 h
          rw [T.mn0 hm] at hl; cases hl
        | some a0 =>
          have e := M.t0 h hi' hn' (old h0 hi' h h5) hm
          unfold lo
          show pre B i (if k < a0 then k else a0) = p
          split
          · rename_i hlt
            obtain ⟨l, h1, h2, _⟩ := P.hL a0 hm hlt
            by_cases he : pre B i a0 = pre B i k
            · rw [← he]; exact e
            · exact absurd h5 (P.ws l a0 i x h2 h1 hi' he (by rw [e]; exact h))
          · exact e
  · cases ha
    rcases G.1 h with ⟨h1, _, rfl, rfl⟩ | h
    · rw [hik ((P.nw i h1 hi').1 h5)]
    · rcases Nat.eq_zero_or_pos i with h0 | h0
      · subst h0
        have hp := (T.rng h).2
        have : E.hi mx k < 2 ^ B := by
          cases hm : mx with
          | none => exact Md.kl
          | some a =>
            obtain ⟨⟨xa, hxa⟩, _⟩ := T.mx1 hm
            have := T.klt hxa
            have := Md.kl
            unfold E.hi
            show (if a < k then k else a) < _
            split <;> assumption
        rw [pre_zero this]; omega
      · have hn' : N (i + 1) (2 * p + 1) = none := by
          cases hh : N (i + 1) (2 * p + 1) with
          | none => rfl
          | some z => rw [G.2 (.inr hh)] at hn; cases hn
        cases hm : mx with
        | none =>
          obtain ⟨q, l, hl⟩ := T.down rfl h0 h
          rw [T.mx0 hm] at hl; cases hl
        | some a0 =>
          have e := M.t1 h hi' hn' (old h0 hi' h h5) hm
          unfold E.hi
          show pre B i (if a0 < k then k else a0) = p
          split
          · rename_i hlt
            obtain ⟨l, h1, h2, _⟩ := P.hG a0 hm hlt
            by_cases he : pre B i a0 = pre B i k
            · rw [← he]; exact e
            · exact absurd h5 (P.wp l a0 i x h2 h1 hi' he (by rw [e]; exact h))
          · exact e
end
end Go.Proofs.YtaacaokocamlcaaDoor.E
