/-
  Plus trees: FnPTOrder, the walk.
-/
import Derived.Test.YtofnapddoiodkaaPtG
import Derived.Test.YtofnapddoiodkaaRow
import Derived.LaidEql
import Derived.Laws.StructEq
import Derived.Laws.Small
import Derived.Shelf.Abstract
namespace Go.Proofs.Ytofnapddoiodkaa.E
open Go
set_option linter.unusedSimpArgs false
set_option linter.unusedVariables false
set_option maxRecDepth 100000
set_option maxHeartbeats 8000000

theorem und2 : Try.prog.underlying 2 = some (.int .i64) := by kernel_rfl
theorem und3 : Try.prog.underlying 3 = some (.int .i64) := by kernel_rfl
theorem flds26 : ∃ a b, (Try.prog.fieldsOf 26).toList = [a, b] ∧ a.name ≠ "_" ∧ a.type = 2 ∧ a.offset = 0 ∧ b.name ≠ "_" ∧ b.type = 3 ∧ b.offset = 1 := ⟨_, _, rfl, by decide, by kernel_rfl, by kernel_rfl, by decide, by kernel_rfl, by kernel_rfl⟩
theorem part0 (a b : Value) (w : World) : (part 2 #[a, b] 0).run Try.prog w = .ok a w := by
  unfold part; rw [Sem.run_bind, run_isAgg_plain und2 rfl]; rfl
theorem part1 (a b : Value) (w : World) : (part 3 #[a, b] 1).run Try.prog w = .ok b w := by
  unfold part; rw [Sem.run_bind, run_isAgg_plain und3 rfl]; rfl
theorem neq26 (x y : Int) (a b : Operand) (w : World) : (binS .neq 26 a b (.agg #[.int .i64 x, .int .i64 y]) (.agg #[.int .i64 x, .int .i64 y])).run Try.prog w = .ok (.bool false) w := by
  unfold binS
  rw [Sem.run_bind, run_eqGuard_agg w _ _ _ _ _ _ (by kernel_rfl)]
  show (binOp .neq 26 _ _).run _ w = _
  rw [run_neq_struct, run_equalIn_agg w 9999 26 _ _ (by kernel_rfl) (by kernel_rfl)]
  obtain ⟨f1, f2, h0, h1, h2, h3, h4, h5, h6⟩ := flds26
  rw [h0]
  have hA : (Op.equalIn 9999 2 (.int .i64 x) (.int .i64 x)).run Try.prog w = .ok true w := by
    have := run_equalIn_int und2 9998 x x w
    rw [decide_eq_true rfl] at this; exact this
  have hB : (Op.equalIn 9999 3 (.int .i64 y) (.int .i64 y)).run Try.prog w = .ok true w := by
    have := run_equalIn_int und3 9998 y y w
    rw [decide_eq_true rfl] at this; exact this
  simp only [Op.eqFields, h1, h2, h3, h4, h5, h6, ne_eq, not_false_eq_true, if_true, Sem.run_bind, part0, part1, Result.andThen_ok, hA, hB, Bool.not_true, Bool.false_eq_true, if_false, Sem.run_pure, Bool.not_true]
theorem raws_b {P : Program} {s : Sem Value} {b : Bool} {f : Bool → W} {w : World} (h : s.run P w = .ok (.bool b) w) (hk : f b w) : RawS P s (.s (.one .bool)) f w := ⟨(b, ()), h, hk⟩
section
variable {k : Value → W} {w : World}
/-- The answers are held against each other. -/
theorem F3_L3_spec {own ask A B : List KV} {H D : List Bool} {wp ap hp bp dp : Option Addr} {wc kc ac hc bc dc : Nat} {kp : Option Addr} (hW : Sl ItK w wp own) (hA : Sl ItK w ap A) (hH : Sl BoK w hp H) (hB : Sl ItK w bp B) (hD : Sl BoK w dp D)
    (lA : A.length = ask.length) (lH : H.length = ask.length) (lB : B.length = ask.length) (lD : D.length = ask.length) (hl : ask.length < 1000)
    (eHD : H = D) (eAB : A = B) (hown : ∀ (i : Nat) (y : KV), own[i]? = some y → H[i]? = some true ∧ A[i]? = some y)
    (hk : ∀ w', Fr (fun _ => False) w w' → k (.bool true) w') :
    Loop [.slice, .slice, .slice, .slice, .slice, .slice, (.int .i64)] (F3_L3 k) wp own.length wc kp ask.length kc ap ask.length ac hp ask.length hc bp ask.length bc dp ask.length dc 0 w := by
  subst eHD eAB
  refine F3_L3_rule (I := fun a1 a2 a3 b1 b2 b3 c1 c2 c3 d1 d2 d3 e1 e2 e3 f1 f2 f3 i w' => a1 = wp ∧ a2 = own.length ∧ b2 = ask.length ∧ c1 = ap ∧ c2 = ask.length ∧ d1 = hp ∧ d2 = ask.length ∧ e1 = bp ∧ e2 = ask.length ∧ f1 = dp ∧ f2 = ask.length ∧ ∃ t : Nat, i = ((t : Nat) : Int) ∧ t ≤ ask.length ∧ Fr (fun _ => False) w w')
    (μ := fun a1 a2 a3 b1 b2 b3 c1 c2 c3 d1 d2 d3 e1 e2 e3 f1 f2 f3 i w' => ask.length - i.toNat) ?_ ⟨rfl, rfl, rfl, rfl, rfl, rfl, rfl, rfl, rfl, rfl, rfl, 0, rfl, Nat.zero_le _, Fr.refl _ _⟩
  rintro _ a2 a3 b1 b2 b3 _ c2 c3 _ d2 d3 _ e2 e3 _ f2 f3 i w1 ⟨rfl, x2, y2, rfl, x3, rfl, x4, rfl, x5, rfl, x6, t, rfl, ht, f⟩
  unfold F3_L3
  rw [x2, y2, x3, x4, x5, x6]
  by_cases hlt : t < ask.length
  · rw [decide_eq_true (show ((t : Nat) : Int) < ((ask.length : Nat) : Int) by omega), BIf_true]
    refine drw_intro fun w2 fd zd => ?_
    have f02 := f.trans fd fun _ h => h.elim
    have gH : H[t]? = some (H[t]'(by omega)) := List.getElem?_eq_getElem (by omega)
    have gA : A[t]? = some (A[t]'(by omega)) := List.getElem?_eq_getElem (by omega)
    generalize H[t]'(by omega) = hb at gH
    generalize A[t]'(by omega) = av at gA
    obtain ⟨q1, o1, rfl, u1⟩ := (hH.fr0 f02).get gH
    obtain ⟨q2, o2, rfl, u2⟩ := (hD.fr0 f02).get gH
    obtain ⟨q3, o3, rfl, u3, u4⟩ := (hA.fr0 f02).get gA
    obtain ⟨q4, o4, rfl, u5, u6⟩ := (hB.fr0 f02).get gA
    have u1 : w2.cell? ⟨q1, o1 + t, none⟩ = some (.bool hb) := by simpa [BoK] using u1
    have u2 : w2.cell? ⟨q2, o2 + t, none⟩ = some (.bool hb) := by simpa [BoK] using u2
    have u3 : w2.cell? ⟨q3, o3 + t * 2, none⟩ = some (.int .i64 av.1) := u3
    have u4 : w2.cell? ⟨q3, o3 + t * 2 + 1, none⟩ = some (.int .i64 av.2) := u4
    have u5 : w2.cell? ⟨q4, o4 + t * 2, none⟩ = some (.int .i64 av.1) := u5
    have u6 : w2.cell? ⟨q4, o4 + t * 2 + 1, none⟩ = some (.int .i64 av.2) := u6
    simp only [NN_mk, Int.toNat_natCast, add_mk, Nat.add_zero]
    refine ⟨by omega, LoadT_bool.2 ⟨hb, u1, ⟨by omega, LoadT_bool.2 ⟨hb, u2, ?_⟩⟩⟩⟩
    rw [show (!(hb == hb)) = false by simp, BIf_false]
    refine ⟨by omega, LoadT_bool.2 ⟨hb, u1, ?_⟩⟩
    rw [addI_i64 (by omega) (by omega)]

    cases hb with
    | true =>
      rw [BIf_true]
      refine ⟨by omega, LoadT_int.2 ⟨_, u3, LoadT_int.2 ⟨_, u4, ⟨by omega, LoadT_int.2 ⟨_, u5, LoadT_int.2 ⟨_, u6, ?_⟩⟩⟩⟩⟩⟩
      refine raws_b (neq26 _ _ _ _ _) ⟨u1, u2, u1, ?_⟩
      rw [BIf_false]
      by_cases how : t < own.length
      · rw [decide_eq_true (show ((t : Nat) : Int) < ((own.length : Nat) : Int) by omega), BIf_true]
        have gW : own[t]? = some own[t] := List.getElem?_eq_getElem how
        generalize own[t] = y at gW
        obtain ⟨_, hy⟩ := hown t y gW
        rw [gA] at hy
        cases hy
        obtain ⟨q5, o5, rfl, u7, u8⟩ := (hW.fr0 f02).get gW
        have u7 : w2.cell? ⟨q5, o5 + t * 2, none⟩ = some (.int .i64 av.1) := u7
        have u8 : w2.cell? ⟨q5, o5 + t * 2 + 1, none⟩ = some (.int .i64 av.2) := u8
        refine ⟨by omega, LoadT_bool.2 ⟨true, u1, ?_⟩⟩
        rw [Bool.not_true, BIf_false]
        refine ⟨by omega, LoadT_int.2 ⟨_, u3, LoadT_int.2 ⟨_, u4, ?_⟩⟩⟩
        simp only [NN_mk, add_mk, Nat.add_zero]
        refine ⟨by omega, LoadT_int.2 ⟨_, u7, LoadT_int.2 ⟨_, u8, ?_⟩⟩⟩
        refine raws_b (neq26 _ _ _ _ _) ⟨u1, u5, u6, u3, u4, u1, u2, u1, ?_⟩
        rw [BIf_false]
        refine ⟨⟨by trivial, by trivial, by trivial, by trivial, by trivial, by trivial, by trivial, by trivial, by trivial, by trivial, by trivial, t + 1, by omega, hlt, f02⟩, ?_⟩
        show ask.length - (((t : Nat) : Int) + 1).toNat < ask.length - ((t : Nat) : Int).toNat
        omega
      · rw [decide_eq_false (show ¬ ((t : Nat) : Int) < ((own.length : Nat) : Int) by omega), BIf_false]
        refine ⟨⟨by trivial, by trivial, by trivial, by trivial, by trivial, by trivial, by trivial, by trivial, by trivial, by trivial, by trivial, t + 1, by omega, hlt, f02⟩, ?_⟩
        show ask.length - (((t : Nat) : Int) + 1).toNat < ask.length - ((t : Nat) : Int).toNat
        omega
    | false =>
      rw [BIf_false]
      have how : ¬ t < own.length := fun h => by
        have := (hown t _ (List.getElem?_eq_getElem h)).1
        rw [gH] at this; cases this
      rw [decide_eq_false (show ¬ ((t : Nat) : Int) < ((own.length : Nat) : Int) by omega), BIf_false]
      refine ⟨⟨by trivial, by trivial, by trivial, by trivial, by trivial, by trivial, by trivial, by trivial, by trivial, by trivial, by trivial, t + 1, by omega, hlt, f02⟩, ?_⟩
      show ask.length - (((t : Nat) : Int) + 1).toNat < ask.length - ((t : Nat) : Int).toNat
      omega
  · rw [decide_eq_false (show ¬ ((t : Nat) : Int) < ((ask.length : Nat) : Int) by omega), BIf_false]
    exact hk w1 f
end
end Go.Proofs.Ytofnapddoiodkaa.E
