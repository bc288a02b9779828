/-
  The merge of two lists: the parts that are cut out ahead of it, and the merge itself.
-/
import Derived.Test.YtpjjnckgjohaeaaMg1
import Derived.Laws.FloatArith
namespace Go.Proofs.Ytpjjnckgjohaeaa.E
open Go
set_option linter.unusedSimpArgs false
set_option linter.unusedVariables false
set_option maxRecDepth 100000
set_option maxHeartbeats 2000000

theorem und55 : Try.prog.underlying 56 = some (.slice 60) := by kernel_rfl
theorem inf60 : ∃ i, Try.prog.info? 60 = some i ∧ i.zero = some .nilIface ∧ i.size = 1 ∧ i.bytes = 16 := ⟨_, rfl, by kernel_rfl, by kernel_rfl, by kernel_rfl⟩
theorem size60 : (Try.prog.info? 60).map (·.size) = some 1 := by kernel_rfl

/-! ## How far apart the lengths are, asked in floats -/
def fAbs (n : Int) : Nat := (andNotI .u64 ((floatOfInt .f64 n : Nat) : Int) 9223372036854775808).toNat
theorem far : (List.range 129).all (fun k => ((FloatKind.f64).format.order (fAbs ((k : Int) - 64)) 4607182418800017408 == some .gt) == decide (((k : Int) - 64) < -1 ∨ 1 < ((k : Int) - 64))) = true := by kernel_rfl
theorem far_of {n : Int} (h1 : -64 ≤ n) (h2 : n ≤ 64) : ((FloatKind.f64).format.order (fAbs n) 4607182418800017408 == some .gt) = decide (n < -1 ∨ 1 < n) := by
  have h := List.all_eq_true.1 far (n + 64).toNat (List.mem_range.2 (by omega))
  rw [show (((n + 64).toNat : Nat) : Int) - 64 = n by omega] at h
  exact eq_of_beq h
theorem call46 (x : Nat) (w : World) : (callFunc 46 [.float .f64 x].toArray).run Try.prog w = .ok (.value (.int .u64 x)) w := by kernel_rfl
theorem call45 (x : Int) (w : World) : (callFunc 45 [.int .u64 x].toArray).run Try.prog w = .ok (.value (.float .f64 x.toNat)) w := by kernel_rfl
theorem NextT_val {P : Program} {s : Sem Next} {r : RTy} {f : Fn W r.leaves} {v : Value} {w w' : World} (h : s.run P w = .ok (.value v) w') (hk : Back r f (.returned v) w') : NextT P s r f w := by
  unfold NextT; rw [h]; exact hk
theorem F39_spec {k : Value → W} {w : World} {n : Int} (hk : k (.float .f64 (fAbs n)) w) : F39 k (floatOfInt .f64 n) w := by
  unfold F39
  refine NextT_val (call46 _ _) (back_int ?_)
  refine NextT_val (call45 _ _) ⟨(_, ()), rfl, ?_⟩
  exact hk
theorem und67 : Try.prog.underlying 67 = some (.float .f64) := by kernel_rfl
theorem conv {n : Int} {f : Nat → W} {w : World} (hk : f (floatOfInt .f64 n) w) : RawT Try.prog (convert 3 67 (.int .i64 n)) (.s (.one (.float .f64))) f w :=
  ⟨(floatOfInt .f64 n, ()), w, run_convert_int_float w 3 67 .i64 .f64 n (by kernel_rfl) und67, hk⟩
theorem gtr {n : Int} {x y : Operand} {f : Bool → W} {w : World} (h1 : -64 ≤ n) (h2 : n ≤ 64) (hk : f (decide (n < -1 ∨ 1 < n)) w) :
    RawS Try.prog (binS .gtr 67 x y (.float .f64 (fAbs n)) (.float .f64 4607182418800017408)) (.s (.one .bool)) f w := by
  refine ⟨(decide (n < -1 ∨ 1 < n), ()), ?_, hk⟩
  rw [← far_of h1 h2]
  have e : eqGuard .gtr 67 x y (.float .f64 (fAbs n)) (.float .f64 4607182418800017408) = pure () := rfl
  unfold binS
  rw [e, binOp_float_cmp_gtr]
  rfl

/-! ## Lists as rows -/
def fn (l : List (Int × Int)) : Nat → Int × Int := fun i => l.getD i (0, 0)
theorem seg_fn (l : List (Int × Int)) : seg (fn l) 0 l.length = l := by
  apply List.ext_getElem?
  intro i
  by_cases h : i < l.length
  · rw [seg_get _ _ _ _ h, Nat.zero_add, fn, List.getD_eq_getElem?_getD, List.getElem?_eq_getElem h]; rfl
  · rw [List.getElem?_eq_none (by rw [seg_length]; omega), List.getElem?_eq_none (by omega)]
theorem fn_get {l : List (Int × Int)} {i : Nat} (h : i < l.length) : l[i]? = some (fn l i) := by rw [fn, List.getD_eq_getElem?_getD, List.getElem?_eq_getElem h]; rfl
def Up (l : List (Int × Int)) : Prop := l.Pairwise fun a b => key a ≤ key b
theorem up_asc {l : List (Int × Int)} (h : Up l) {i j : Nat} (hij : i ≤ j) (hj : j < l.length) : key (fn l i) ≤ key (fn l j) := by
  rcases Nat.lt_or_ge i j with e | e
  · have := List.pairwise_iff_getElem.1 h i j (by omega) hj e
    have e1 := fn_get (l := l) (i := i) (by omega)
    have e2 := fn_get hj
    rw [List.getElem?_eq_getElem (by omega)] at e1 e2
    rw [← Option.some.inj e1, ← Option.some.inj e2]; exact this
  · have : i = j := by omega
    subst this; exact Int.le_refl _
theorem fn_app1 {l m : List (Int × Int)} {i : Nat} (h : i < l.length) : fn (l ++ m) i = fn l i := by
  simp only [fn, List.getD_eq_getElem?_getD, List.getElem?_append_left h]
theorem fn_app2 {l m : List (Int × Int)} {i : Nat} (h : l.length ≤ i) : fn (l ++ m) i = fn m (i - l.length) := by
  simp only [fn, List.getD_eq_getElem?_getD, List.getElem?_append_right h]
theorem asc_app {l m : List (Int × Int)} (hl : Up l) (hm : Up m) : Asc key (fn (l ++ m)) 0 l.length ∧ Asc key (fn (l ++ m)) l.length (l ++ m).length := by
  refine ⟨fun x y h1 h2 h3 => ?_, fun x y h1 h2 h3 => ?_⟩
  · rw [fn_app1 (by omega), fn_app1 h3]; exact up_asc hl h2 h3
  · rw [List.length_append] at h3
    rw [fn_app2 h1, fn_app2 (by omega)]; exact up_asc hm (by omega) (by omega)
theorem up_of_asc {g : Nat → Int × Int} {n : Nat} (h : Asc key g 0 n) : Up (seg g 0 n) := by
  refine List.pairwise_iff_getElem.2 fun i j hi hj hij => ?_
  rw [seg_length] at hi hj
  have e1 := seg_get g n 0 i hi
  have e2 := seg_get g n 0 j hj
  rw [List.getElem?_eq_getElem (by rw [seg_length]; exact hi), Nat.zero_add] at e1
  rw [List.getElem?_eq_getElem (by rw [seg_length]; exact hj), Nat.zero_add] at e2
  rw [Option.some.inj e1, Option.some.inj e2]; exact h i j (Nat.zero_le _) (by omega) hj
theorem Own.toN {w : World} {e : TypeId} {p : Option Addr} {l c : Nat} {vs : List Value} (h : Own w e p l c vs) : OwnN w e 1 p l c vs := by
  refine ⟨by simpa using h.1, h.2.imp id ?_⟩
  rintro ⟨q, rest, h1, h2, h3, h4⟩
  refine ⟨q, rest, h1, h2, by simpa using h3, ?_, h4⟩
  have := h.1
  rw [List.length_append] at h3
  omega
theorem encs_append (l m : List (Int × Int)) : encs (l ++ m) = encs l ++ encs m := List.map_append
/-- Two ascending lists, one behind the other in a row: merged. -/
theorem merge_row {w : World} {q l c : Nat} {us ws : List (Int × Int)} {R : Ending → World → Prop} (h : Own w 60 (some ⟨q, 0, none⟩) l c (encs (us ++ ws))) (hl : l = us.length + ws.length) (hb : l < 100000) (hu : Up us) (hw : Up ws)
    (hk : ∀ zs w', Own w' 60 (some ⟨q, 0, none⟩) l c (encs zs) → zs.length = l → zs.Perm (us ++ ws) → Up zs → Fr (fun x => x = q) w w' → R (.returned (.tuple #[])) w') :
    Calls Try.prog 41 #[.slice (some ⟨q, 0, none⟩) l c, .int .i64 0, .int .i64 (us.length : Nat), .int .i64 (l : Nat)] w R := by
  have hA : AR w q c l (fn (us ++ ws)) := by
    unfold AR
    have := seg_fn (us ++ ws)
    rw [List.length_append, ← hl] at this
    rw [this]; exact h
  obtain ⟨a1, a2⟩ := asc_app hu hw
  rw [List.length_append, ← hl] at a2
  refine F41_all l (a := 0) (m := us.length) (b := l) (by omega) hA (Nat.zero_le _) (by omega) (Nat.le_refl _) hb a1 a2 fun g w' hg M S f => ?_
  refine hk (seg g 0 l) w' hg (seg_length _ _ _) ?_ (up_of_asc S) f
  have := M.perm
  have e := seg_fn (us ++ ws)
  rw [List.length_append, ← hl] at e
  rw [e] at this; exact this

/-! ## Parts -/
theorem append_room {P : Program} {t e : TypeId} {i : TypeInfo} {ty : TypeId} {cs : Array Bool} {f : Option Addr → Nat → Nat → W} {w : World} {q o l c m d : Nat} {a : Addr} {vs news : List Value}
    (ht : P.underlying t = some (.slice e)) (hi : P.info? e = some i) (hs : i.size = 1) (hB : Blk w q e vs) (hl : news.length = m) (hnews : ∀ j u, news[j]? = some u → w.cell? (a.add j) = some u) (h1 : ∀ u ∈ news, u.oneCell' = true)
    (hroom : l + m ≤ c) (hfit : o + l + m ≤ vs.length)
    (hk : ∀ w', Blk w' q e (vs.take (o + l) ++ news ++ vs.drop (o + l + m)) → Fr (fun b => b = q) w w' → f (some ⟨q, o, none⟩) (l + m) c w') :
    NextT P (builtin .append #[t, t] ty cs [.slice (some ⟨q, o, none⟩) l c, .slice (some a) m d].toArray) (.s (.one .slice)) f w := by
  have hf := run_firstCells_some (P := P) w i.size m a m d news (by rw [hs, Nat.mul_one]; exact hl) hnews
  have hst := run_storeCells_at P q (o + l) e news 0 vs.toArray w hB (by simp; omega) h1
  simp only [Nat.add_zero] at hst
  have hr : (Builtin.append_ #[t, t] ty #[.slice (some ⟨q, o, none⟩) l c, .slice (some a) m d]).run P w = .ok (.slice (some ⟨q, o, none⟩) (l + m) c) (w.setRow q (vs.take (o + l) ++ news ++ vs.drop (o + l + m)).toArray) := by
    subst hl
    rw [hs] at hf
    simp [Builtin.append_, run_underlying ht, sizeOf, typeInfo, hi, Builtin.lenOf, hroom, hf, hs, add_mk]
    rw [hst]
    simp
  refine NextT_slice (builtin_append hr) (hk _ ?_ ⟨rfl, rfl, rfl, by simp, fun b _ hS => setRow_other w q b _ hS⟩)
  exact setRow_heap w q vs.toArray _ e _ hB
end Go.Proofs.Ytpjjnckgjohaeaa.E
