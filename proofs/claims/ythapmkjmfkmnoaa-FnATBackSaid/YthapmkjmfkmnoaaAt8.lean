/-
  Interval trees: whether intervals overlap.
-/
import Derived.Test.YthapmkjmfkmnoaaAt7
import Derived.Test.YthapmkjmfkmnoaaFnsB
import Derived.Test.YthapmkjmfkmnoaaLists
namespace Go.Proofs.Ythapmkjmfkmnoaa.E
open Go
set_option linter.unusedSimpArgs false
set_option linter.unusedVariables false
set_option maxRecDepth 100000
set_option maxHeartbeats 8000000

theorem IfaceNil_v {x : Spn} {f : Bool → W} : IfaceNil x.v f = f false := IfaceNil_iface
def ovl (h oh l ol : Int) : Bool := decide (h ≥ ol) && decide (l ≤ oh)
/-- Overlap in a dimension. -/
def ovD (x y : Spn) (d : Nat) : Bool := decide (plc x.lows d ≤ plc y.highs d) && decide (plc y.lows d ≤ plc x.highs d)
/-- Overlap in the dimensions from i on, n of them. -/
def ovR (x y : Spn) (i : Nat) : Nat → Bool
  | 0 => true
  | n + 1 => ovD x y i && ovR x y (i + 1) n
def ovA (x y : Spn) (m : Nat) : Bool := ovl x.hi y.hi x.lo y.lo && ovR x y 2 (m - 1)
theorem m_ov (p q : Option Addr) (l c m d : Nat) (i : Int) (v : Value) (j : Int) (w : World) : (callMethod (.iface 59 (.agg #[.slice p l c, .slice q m d, .int .u64 i])) "OverlapsAtDimension" [v, .int .u64 j].toArray).run Try.prog w = .ok (.enter 60 #[.agg #[.slice p l c, .slice q m d, .int .u64 i], v, .int .u64 j]) w := by kernel_rfl
section
variable {w : World} {k : Value → W}
theorem F53_spec {a b c d : Int} (hk : k (.bool (ovl a b c d)) w) : F53 k a b c d w := by
  unfold F53
  unfold ovl at hk
  by_cases h1 : a ≥ d
  · rw [decide_eq_true h1, BIf_true]
    rw [decide_eq_true h1, Bool.true_and] at hk
    exact hk
  · rw [decide_eq_false h1, BIf_false]
    rw [decide_eq_false h1, Bool.false_and] at hk
    exact hk
theorem chk {b t i : Nat} {vs : List Value} {v : Value} {k : W} (h : Blk w b t vs) (hi : vs[i]? = some v) (hk : k w) : Chk1 ⟨b, i, none⟩ v k w := ⟨by rw [h.cell, hi], hk⟩
theorem ov_intro {x y : Spn} {d : Nat} {f : Bool → W} (h : SpOk w x) (h' : SpOk w y) (hd : d < 1000) (hk : ∀ w', Fr (fun _ => False) w w' → f (ovD x y d) w') : NextT Try.prog (callMethod x.v "OverlapsAtDimension" [y.v, .int .u64 ((d : Nat) : Int)].toArray) (.s (.one .bool)) f w := by
  refine NextT_enter (m_ov _ _ _ _ _ _ _ _ _ w) (F60_calls ?_)
  unfold F60
  refine new_intro fun n w1 e1 b1 f1 z1 => drw_intro fun w2 f2 z2 => ?_
  have b2 := b1.fr f2 id
  have f02 := f1.trans f2 fun _ h => h.elim
  refine load_slice (i := 0) b2 rfl (load_slice (i := 1) b2 rfl (load_int (i := 2) b2 rfl ?_))
  refine F59_call ?_
  unfold F59
  refine new_intro fun n3 w3 e3 b3 f3 z3 => load_slice (i := 0) b3 rfl ?_
  have f03 := f02.trans f3 fun _ h => h.elim
  refine F61_call (F61_spec (h.fr0 f03).1 h.2.2.1 hd (back_int (back_int ?_)))
  refine hi_intro (x := y) (h'.fr0 f03) hd fun w4 f4 => ?_
  have b4 := (b2.fr f3 id).fr f4 id
  have f04 := f03.trans f4 fun _ h => h.elim
  refine chk (i := 0) b4 rfl (chk (i := 1) b4 rfl (chk (i := 2) b4 rfl ?_))
  by_cases h1 : plc x.lows d ≤ plc y.highs d
  · rw [decide_eq_true h1, BIf_true]
    refine load_slice (i := 0) b4 rfl (load_slice (i := 1) b4 rfl (load_int (i := 2) b4 rfl ?_))
    refine lo_intro (x := y) (h'.fr0 f04) hd fun w5 f5 => ?_
    have b5 := b4.fr f5 id
    have f05 := f04.trans f5 fun _ h => h.elim
    refine chk (i := 0) b5 rfl (chk (i := 1) b5 rfl (chk (i := 2) b5 rfl (chk (i := 0) b5 rfl (chk (i := 1) b5 rfl (chk (i := 2) b5 rfl ?_)))))
    refine F57_call ?_
    unfold F57
    refine new_intro fun n6 w6 e6 b6 f6 z6 => load_slice (i := 1) b6 rfl ?_
    have f06 := f05.trans f6 fun _ h => h.elim
    refine F61_call (F61_spec (h.fr0 f06).2.1 h.2.2.2 hd (back_int (back_int ?_)))
    have b7 := b5.fr f6 id
    refine chk (i := 0) b7 rfl (chk (i := 1) b7 rfl (chk (i := 2) b7 rfl (back_bool ?_)))
    have := hk w6 f06
    unfold ovD at this
    rw [decide_eq_true h1, Bool.true_and] at this
    exact this
  · rw [decide_eq_false h1, BIf_false]
    have := hk w4 f04
    unfold ovD at this
    rw [decide_eq_false h1, Bool.false_and] at this
    exact back_bool this
/-- intervalOverlaps. -/
theorem F54_spec {D : List Nat} {s : St} {b m : Nat} {x y : Spn} (h : MS w D s) (hb : b ∈ D) (hx : (s b).x = some x) (hy : SpOk w y) (hm : 1 ≤ m) (hm9 : m < 100) (hk : ∀ w', Fr (fun _ => False) w w' → k (.bool (ovA x y m)) w') :
    F54 k (some ⟨b, 0, none⟩) y.lo y.hi y.v ((m : Nat) : Int) w := by
  unfold F54
  refine drw_intro fun w1 f1 z1 => ?_
  have h1 := h.fr0 f1
  have sx := (h1 b hb).2 x hx
  simp only [NN_mk]
  refine ld_x h1 hb hx (ld_x h1 hb hx ?_)
  rw [show (1 : Int) = ((1 : Nat) : Int) from rfl]
  refine hi_intro sx (by decide) fun w2 f2 => ?_
  have cx : ∀ {w' : World}, MS w' D s → w'.cell? ⟨b, 0, none⟩ = some x.v := fun h => by rw [(h b hb).1.cell]; simp [ndc, hx]
  have h2 := h1.fr0 f2
  refine ⟨cx h2, ?_⟩
  refine lo_intro (sx.fr0 f2) (by decide) fun w3 f3 => ?_
  have h3 := h2.fr0 f3
  have f03 := (f1.trans f2 fun _ h => h.elim).trans f3 fun _ h => h.elim
  refine ⟨cx h3, F53_call (F53_spec (back_bool ⟨cx h3, ⟨cx h3, ?_⟩⟩))⟩
  have hk' := fun w' f => hk w' f
  unfold ovA at hk'
  have e1 : ovl (plc x.highs 1) y.hi (plc x.lows 1) y.lo = ovl x.hi y.hi x.lo y.lo := rfl
  rw [e1]
  cases hv : ovl x.hi y.hi x.lo y.lo with
  | false =>
    rw [hv] at hk'
    rw [Bool.not_false, BIf_true]
    exact hk' w3 f03
  | true =>
    rw [hv] at hk'
    simp only [Bool.true_and] at hk'
    rw [Bool.not_true, BIf_false]
    show IfaceNil y.v _ w3
    rw [IfaceNil_v, BIf_false]
    refine F54_L1_rule (I := fun n v mm i w' => n = some ⟨b, 0, none⟩ ∧ v = y.v ∧ mm = ((m : Nat) : Int) ∧ ∃ t : Nat, i = ((t : Nat) : Int) ∧ 2 ≤ t ∧ t ≤ m + 1 ∧ ovR x y 2 (m - 1) = ovR x y t (m + 1 - t) ∧ Fr (fun _ => False) w w') (μ := fun n v mm i w' => m + 1 - i.toNat) ?_ ⟨rfl, rfl, rfl, 2, rfl, Nat.le_refl _, by omega, by rw [show m + 1 - 2 = m - 1 by omega], f03⟩
    rintro _ _ _ i w4 ⟨rfl, rfl, rfl, t, rfl, ht2, htm, ho, f4⟩
    unfold F54_L1
    by_cases hle : t ≤ m
    · rw [decide_eq_true (show ((t : Nat) : Int) ≤ ((m : Nat) : Int) by omega), BIf_true, NN_mk]
      have h4 := h.fr0 f4
      refine ld_x h4 hb hx (ov_intro ((h4 b hb).2 x hx) (hy.fr0 f4) (by omega) fun w5 f5 => ?_)
      have f05 := f4.trans f5 fun _ h => h.elim
      rw [show m + 1 - t = (m + 1 - (t + 1)) + 1 by omega] at ho
      have ho : ovR x y 2 (m - 1) = (ovD x y t && ovR x y (t + 1) (m + 1 - (t + 1))) := ho
      cases hd : ovD x y t with
      | false =>
        rw [Bool.not_false, BIf_true]
        rw [hd, Bool.false_and] at ho
        rw [ho] at hk'
        exact hk' w5 f05
      | true =>
        rw [Bool.not_true, BIf_false, addI_u64 (by omega) (by omega)]
        rw [hd, Bool.true_and] at ho
        refine ⟨⟨by trivial, by trivial, by trivial, t + 1, by omega, by omega, by omega, ho, f05⟩, ?_⟩
        show m + 1 - (((t : Nat) : Int) + 1).toNat < m + 1 - ((t : Nat) : Int).toNat
        omega
    · rw [decide_eq_false (show ¬ ((t : Nat) : Int) ≤ ((m : Nat) : Int) by omega), BIf_false]
      rw [show m + 1 - t = 0 by omega] at ho
      rw [ho] at hk'
      exact hk' w4 f4
end
end Go.Proofs.Ythapmkjmfkmnoaa.E
