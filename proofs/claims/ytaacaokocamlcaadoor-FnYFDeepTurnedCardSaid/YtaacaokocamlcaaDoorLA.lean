/-
  The laws' own functions: universes, masks, many entries; lists of entries held against each other.
-/
import Derived.Test.YtaacaokocamlcaaDoorYF
import Derived.Test.YtaacaokocamlcaaDoorFnsD
import Derived.Laws.StructEq
namespace Go.Proofs.YtaacaokocamlcaaDoor.E
open Go
set_option linter.unusedSimpArgs false
set_option linter.unusedVariables false
set_option maxRecDepth 100000
set_option maxHeartbeats 8000000

theorem wrap_nat (n : Nat) : IntKind.wrap .u64 (n : Int) = ((n % 18446744073709551616 : Nat) : Int) := by
  simp [IntKind.wrap, IntKind.bits, IntKind.signed]
theorem F7_spec {k : Value → W} {w : World} {size : Int} (h0 : 0 ≤ size) (hk : ∀ B, Bits B → k (.int .i64 (B : Nat)) w) : F7 k size w := by
  unfold F7
  refine ⟨by decide, ?_⟩
  rw [remI_eq h0]
  refine ⟨by omega, bind_intro ?_⟩
  have h : size % 4 = 0 ∨ size % 4 = 1 ∨ size % 4 = 2 ∨ size % 4 = 3 := by omega
  rw [shlI_def]
  rcases h with h | h | h | h
  · rw [h]; exact hk 8 (.inl rfl)
  · rw [h]; exact hk 16 (.inr (.inl rfl))
  · rw [h]; exact hk 32 (.inr (.inr (.inl rfl)))
  · rw [h]; exact hk 64 (.inr (.inr (.inr rfl)))
theorem F13_spec {k : Value → W} {w : World} {B : Nat} (h : Bits B) (hk : k (.int .u64 ((2 ^ B - 1 : Nat) : Int)) w) : F13 k (B : Nat) w := by
  unfold F13
  rcases h with rfl | rfl | rfl | rfl
  · rw [decide_eq_false (by decide)]
    simp only [BIf_false]
    refine ⟨by decide, bind_intro ?_⟩
    rw [show (IntKind.wrap .u64 ((8 : Nat) : Int)).toNat = 8 from by decide, shl1_nat (by decide)]
    exact hk
  · rw [decide_eq_false (by decide)]
    simp only [BIf_false]
    refine ⟨by decide, bind_intro ?_⟩
    rw [show (IntKind.wrap .u64 ((16 : Nat) : Int)).toNat = 16 from by decide, shl1_nat (by decide)]
    exact hk
  · rw [decide_eq_false (by decide)]
    simp only [BIf_false]
    refine ⟨by decide, bind_intro ?_⟩
    rw [show (IntKind.wrap .u64 ((32 : Nat) : Int)).toNat = 32 from by decide, shl1_nat (by decide)]
    exact hk
  · rw [decide_eq_true (by decide)]
    simp only [BIf_true]
    exact hk
theorem und3 : Tryd.prog.underlying 3 = some (.int .i64) := by kernel_rfl
theorem flds35 : ∃ a b, (Tryd.prog.fieldsOf 35).toList = [a, b] ∧ a.name ≠ "_" ∧ a.type = 22 ∧ a.offset = 0 ∧ b.name ≠ "_" ∧ b.type = 3 ∧ b.offset = 1 := ⟨_, _, rfl, by decide, by kernel_rfl, by kernel_rfl, by decide, by kernel_rfl, by kernel_rfl⟩
theorem part0 (a b : Value) (w : World) : (part 22 #[a, b] 0).run Tryd.prog w = .ok a w := by
  unfold part; rw [Sem.run_bind, run_isAgg_plain und22 rfl]; rfl
theorem part1 (a b : Value) (w : World) : (part 3 #[a, b] 1).run Tryd.prog w = .ok b w := by
  unfold part; rw [Sem.run_bind, run_isAgg_plain und3 rfl]; rfl
theorem neq35 (x y : Int) (a b : Operand) (w : World) : (binS .neq 35 a b (.agg #[.int .u64 x, .int .i64 y]) (.agg #[.int .u64 x, .int .i64 y])).run Tryd.prog w = .ok (.bool false) w := by
  unfold binS
  rw [Sem.run_bind, run_eqGuard_agg w _ _ _ _ _ _ (by kernel_rfl)]
  show (binOp .neq 35 _ _).run _ w = _
  rw [run_neq_struct, run_equalIn_agg w 9999 35 _ _ (by kernel_rfl) (by kernel_rfl)]
  obtain ⟨f1, f2, h0, h1, h2, h3, h4, h5, h6⟩ := flds35
  rw [h0]
  have hA : (Op.equalIn 9999 22 (.int .u64 x) (.int .u64 x)).run Tryd.prog w = .ok true w := by
    have := run_equalIn_int und22 9998 x x w
    rw [decide_eq_true rfl] at this; exact this
  have hB : (Op.equalIn 9999 3 (.int .i64 y) (.int .i64 y)).run Tryd.prog w = .ok true w := by
    have := run_equalIn_int und3 9998 y y w
    rw [decide_eq_true rfl] at this; exact this
  simp only [Op.eqFields, h1, h2, h3, h4, h5, h6, ne_eq, not_false_eq_true, if_true, Sem.run_bind, part0, part1, Result.andThen_ok, hA, hB, Bool.not_true, Bool.false_eq_true, if_false, Sem.run_pure, Bool.not_true]
theorem raws_b {P : Program} {s : Sem Value} {b : Bool} {f : Bool → W} {w : World} (h : s.run P w = .ok (.bool b) w) (hk : f b w) : RawS P s (.s (.one .bool)) f w := ⟨(b, ()), h, hk⟩
/-- TRSameItems, of equal lists. -/
theorem F11_spec {k : Value → W} {w : World} {ap bp : Option Addr} {ac bc : Nat} {xs : List Itm} (hA : Sl ItK w ap xs) (hB : Sl ItK w bp xs) (hl : xs.length < 4000000000) (hk : ∀ w', Fr (fun _ => False) w w' → k (.bool true) w') : F11 k ap xs.length ac bp xs.length bc w := by
  unfold F11
  rw [show (((xs.length : Nat) : Int) != ((xs.length : Nat) : Int)) = false by simp]
  simp only [BIf_false]
  refine F11_L1_rule (fun a al ac' b bl' bc' i w' => a = ap ∧ al = xs.length ∧ b = bp ∧ bl' = xs.length ∧ ∃ j : Nat, i = j ∧ j ≤ xs.length ∧ Fr (fun _ => False) w w')
    (fun _ _ _ _ _ _ i _ => ((xs.length : Int) - i).toNat) ?_ ⟨rfl, rfl, rfl, rfl, 0, rfl, Nat.zero_le _, Fr.refl _ _⟩
  rintro a al ac' b bl' bc' i w1 ⟨e1, rfl, e2, rfl, j, rfl, hj, f1⟩
  obtain rfl := e1.symm; obtain rfl := e2.symm
  unfold F11_L1
  by_cases hlt : j < xs.length
  rotate_left
  · rw [decide_eq_false (by omega)]
    simp only [BIf_false]
    exact hk w1 f1
  rw [decide_eq_true (by omega)]
  simp only [BIf_true]
  refine drw_intro fun w2 f2 z2 => ?_
  have f02 := f1.trans f2 fun _ h => h.elim
  have hx : xs[j]? = some xs[j] := List.getElem?_eq_getElem hlt
  obtain ⟨q, o, rfl, h0, h1⟩ := (hA.fr0 f02).get hx
  obtain ⟨q', o', rfl, h0', h1'⟩ := (hB.fr0 f02).get hx
  simp only [NN_mk, Int.toNat_natCast, add_mk]
  refine ⟨by omega, LoadT_int.2 ⟨_, h0, LoadT_int.2 ⟨_, h1, ?_⟩⟩⟩
  refine ⟨by omega, LoadT_int.2 ⟨_, h0', LoadT_int.2 ⟨_, h1', ?_⟩⟩⟩
  refine raws_b (neq35 _ _ _ _ w2) ?_
  simp only [BIf_false]
  rw [add_one (by omega)]
  exact ⟨⟨(by trivial), (by trivial), (by trivial), (by trivial), j + 1, rfl, hlt, f02⟩, by omega⟩
end Go.Proofs.YtaacaokocamlcaaDoor.E
