/-
  Sorted lists of items: place, put, from; what an answer is held against.
-/
import Derived.Test.YtfokodpnoiilbaaSC
import Derived.Laws.Small
import Derived.Shelf.Abstract
namespace Go.Proofs.Ytfokodpnoiilbaa.E
open Go
set_option linter.unusedSimpArgs false
set_option linter.unusedVariables false
set_option maxRecDepth 100000
set_option maxHeartbeats 8000000

theorem run_min {w : World} {f : Int → W} {a b : Nat} (hk : f ((min a b : Nat) : Int) w) : NextT Try.prog (builtin .min #[3, 3] 3 [false, false].toArray [.int .i64 (a : Nat), .int .i64 (b : Nat)].toArray) (.s (.one (.int .i64))) f w := by
  refine NextT_int (n := ((min a b : Nat) : Int)) (w' := w) ?_ hk
  show (Sem.run Try.prog (do let a ← Builtin.min_ _ _ _; pure (Next.value a)) w) = _
  have := run_min_int2 (P := Try.prog) (w := w) #[3, 3] 3 .i64 .i64 (a : Nat) (b : Nat)
  rw [Sem.run_bind, show [Value.int .i64 (a : Nat), .int .i64 (b : Nat)].toArray = #[.int .i64 (a : Nat), .int .i64 (b : Nat)] from rfl, this]
  simp only [Result.andThen_ok, Sem.run_pure]
  congr 3
  omega
theorem und3 : Try.prog.underlying 3 = some (.int .i64) := by kernel_rfl
theorem flds37 : ∃ a b, (Try.prog.fieldsOf 37).toList = [a, b] ∧ a.name ≠ "_" ∧ a.type = 3 ∧ a.offset = 0 ∧ b.name ≠ "_" ∧ b.type = 3 ∧ b.offset = 1 := ⟨_, _, rfl, by decide, by kernel_rfl, by kernel_rfl, by decide, by kernel_rfl, by kernel_rfl⟩
theorem part0 (a b : Value) (w : World) : (part 3 #[a, b] 0).run Try.prog w = .ok a w := by
  unfold part; rw [Sem.run_bind, run_isAgg_plain und3 rfl]; rfl
theorem part1 (a b : Value) (w : World) : (part 3 #[a, b] 1).run Try.prog w = .ok b w := by
  unfold part; rw [Sem.run_bind, run_isAgg_plain und3 rfl]; rfl
theorem neq37 (x y : Int) (a b : Operand) (w : World) : (binS .neq 37 a b (.agg #[.int .i64 x, .int .i64 y]) (.agg #[.int .i64 x, .int .i64 y])).run Try.prog w = .ok (.bool false) w := by
  unfold binS
  rw [Sem.run_bind, run_eqGuard_agg w _ _ _ _ _ _ (by kernel_rfl)]
  show (binOp .neq 37 _ _).run _ w = _
  rw [run_neq_struct, run_equalIn_agg w 9999 37 _ _ (by kernel_rfl) (by kernel_rfl)]
  obtain ⟨f1, f2, h0, h1, h2, h3, h4, h5, h6⟩ := flds37
  rw [h0]
  have hA : (Op.equalIn 9999 3 (.int .i64 x) (.int .i64 x)).run Try.prog w = .ok true w := by
    have := run_equalIn_int und3 9998 x x w
    rw [decide_eq_true rfl] at this; exact this
  have hB : (Op.equalIn 9999 3 (.int .i64 y) (.int .i64 y)).run Try.prog w = .ok true w := by
    have := run_equalIn_int und3 9998 y y w
    rw [decide_eq_true rfl] at this; exact this
  simp only [Op.eqFields, h1, h2, h3, h4, h5, h6, ne_eq, not_false_eq_true, if_true, Sem.run_bind, part0, part1, Result.andThen_ok, hA, hB, Bool.not_true, Bool.false_eq_true, if_false, Sem.run_pure, Bool.not_true]
theorem raws_b {P : Program} {s : Sem Value} {b : Bool} {f : Bool → W} {w : World} (h : s.run P w = .ok (.bool b) w) (hk : f b w) : RawS P s (.s (.one .bool)) f w := ⟨(b, ()), h, hk⟩

section
variable {w : World} {p : Option Addr} {c : Nat} {l : List Itm}
theorem bld_nw {f : Option Addr → Nat → Nat → W} {x y : Int} (hk : ∀ n w', n = w.heap.size → Sl NwK w' (some ⟨n, 0, none⟩) [(x, y)] → Fr (fun _ => False) w w' → w'.heap.size = n + 1 → f (some ⟨n, 0, none⟩) 1 1 w') :
    RawT Try.prog (Instr.buildSlice 63 1 [(0, .agg #[.int .i64 x, .int .i64 y])].toArray) (.s (.one .slice)) f w := by
  obtain ⟨i, g1, g2, g3, g4⟩ := inf67
  exact build_intro und63 g1 g2 (by omega) (by omega) (fill37 _ _ i g3) fun w1 f1 b1 z1 => hk _ w1 rfl (Sl.of_blk (K := NwK) b1 (Rows.one ⟨rfl, rfl⟩)) f1 z1
/-- SKPlace. -/
theorem F38_spec {k : Value → W} {a : Nat} {x : Itm} (hS : Ls w p c l) (hl : l.length < 2000000000) (ha : a ≤ l.length) (hk : ∀ w' p' c', Ls w' p' c' (l.take a ++ x :: l.drop a) → Fr (fun _ => False) w w' → k (.slice p' (l.take a ++ x :: l.drop a).length c') w') : F38 k p l.length c (a : Nat) x.1 x.2 w := by
  unfold F38
  refine new_intro fun n w1 e1 b1 f1 z1 => ?_
  refine run_min ?_
  rw [Nat.min_eq_left ha]
  obtain ⟨i, g1, g2, g3, g4⟩ := inf67
  refine build_none und63 g1 fun w2 f2 b2 z2 => ?_
  have o2 : SlO NwK w2 (some ⟨w1.heap.size, 0, none⟩) 0 0 [] := SlO.made (K := NwK) b2 rfl (by decide) rfl (Rows.nil _ _ _ _)
  have f02 := f1.trans f2 fun _ h => h.elim
  have hc := hS.2
  rw [Req_iff, Int.toNat_natCast]
  refine ⟨⟨by omega, by omega⟩, ?_⟩
  have hs1 : Sl NwK w2 (sliceA p 0 c 2) (l.take a) := by
    have := ((hS.1.fr0 f02).drop (n := 0) (c := c) hc).take a
    rw [List.drop_zero] at this
    exact this
  refine app_ls o2 hs1 (by rw [Nat.sub_zero, List.length_take, Nat.min_eq_left ha]) (by omega) fun p3 c3 w3 f3 o3 hp3 => ?_
  refine drw_intro fun w4 f4 z4 => ?_
  have hp3' : ∀ b, bl p3 b → w1.heap.size ≤ b := fun b hb => by
    rcases hp3 b hb with ⟨y, hy, e⟩ | h
    · cases hy; exact Nat.le_of_eq e
    · have := f2.size; omega
  have f13 : Fr (fun _ => False) w1 w3 := f2.trans f3 fun b ⟨y, hy, e⟩ => .inr (by cases hy; exact Nat.le_of_eq e)
  have f14 := f13.trans f4 fun _ h => h.elim
  have b4 := b1.fr f14 id
  refine load_int (i := 0) b4 rfl (load_int (i := 1) b4 rfl ?_)
  rw [Req_iff]
  refine ⟨⟨by omega, by omega⟩, ?_⟩
  refine bld_nw fun m w5 e5 s5 f5 z5 => ?_
  have o5 := (o3.fr0 f4).fr0 f5
  refine app_ls o5 s5 rfl (by omega) fun p6 c6 w6 f6 o6 hp6 => ?_
  have f16 : Fr (fun _ => False) w1 w6 := (f14.trans f5 fun _ h => h.elim).trans f6 fun b hb => .inr (hp3' b hb)
  have b6 := b1.fr f16 id
  refine chk (i := 0) b6 rfl (chk (i := 1) b6 rfl ?_)
  have hs6 : Sl NwK w6 (sliceA p a c 2) (l.drop a) := (hS.1.fr0 (f1.trans f16 fun _ h => h.elim)).drop (n := a) (c := c) hc
  have hp6' : ∀ b, bl p6 b → w1.heap.size ≤ b := fun b hb => by
    rcases hp6 b hb with h | h
    · exact hp3' b h
    · have := f14.size; have := f5.size; omega
  refine app_ls o6 hs6 (by rw [List.length_drop]) (by omega) fun p7 c7 w7 f7 o7 hp7 => ?_
  have f17 : Fr (fun _ => False) w1 w7 := f16.trans f7 fun b hb => .inr (hp6' b hb)
  have b7 := b1.fr f17 id
  refine chk (i := 0) b7 rfl (chk (i := 1) b7 rfl ?_)
  have e : ([] ++ l.take a ++ [(x.1, x.2)] ++ l.drop a) = l.take a ++ x :: l.drop a := by simp
  have hlen7 := o7.len
  rw [e] at o7 hlen7
  rw [hlen7]
  exact hk w7 p7 c7 o7.ls (f1.trans f17 fun _ h => h.elim)
/-- SKPut. -/
theorem F19_spec {k : Value → W} {x : Itm} (hS : Ls w p c l) (hl : l.length < 1000000000) (so : SoI l) (hk : ∀ w' p' c', Ls w' p' c' (putI l x) → Fr (fun _ => False) w w' → k (.slice p' (putI l x).length c') w') : F19 k p l.length c x.1 x.2 w := by
  unfold F19
  refine new_intro fun n w1 e1 b1 f1 z1 => ?_
  refine load_int (i := 0) b1 rfl ?_
  have hld := len_del l x
  refine F20_call (F20_spec (v := x.2) (hS.fr0 f1) (by omega) so fun w2 p2 c2 s2 f2 => back_slice ?_)
  have s2 : Ls w2 p2 c2 (delI l x) := s2
  refine drw_intro fun w3 f3 z3 => ?_
  have b3 := (b1.fr f2 id).fr f3 id
  refine load_int (i := 0) b3 rfl (load_int (i := 0) b3 rfl (load_int (i := 1) b3 rfl ?_))
  have hld2 : (delI l (x.1, x.2)).length = (delI l x).length := rfl
  rw [hld2]
  have sod := so.del x
  refine F35_call (F35_spec (s2.fr0 f3).1 (by omega) sod (back_int ?_))
  refine chk (i := 0) b3 rfl (chk (i := 1) b3 rfl ?_)
  have hlo := lo_del so x
  have hsp := lo_hiI sod x.1
  have hle : (loI x.1 (delI l x)).length ≤ (delI l x).length := List.length_filter_le _ _
  refine F38_call (F38_spec (x := x) (s2.fr0 f3) (by omega) hle fun w4 p4 c4 s4 f4 => back_slice ?_)
  have b4 := b3.fr f4 id
  refine chk (i := 0) b4 rfl ?_
  have e : (delI l x).take (loI x.1 (delI l x)).length ++ x :: (delI l x).drop (loI x.1 (delI l x)).length = putI l x := by
    rw [take_split hsp, drop_split hsp, hlo.1, hlo.2]; rfl
  rw [e] at s4 ⊢
  exact hk w4 p4 c4 s4 (((f1.trans f2 fun _ h => h.elim).trans f3 fun _ h => h.elim).trans f4 fun _ h => h.elim)
/-- SKFrom. -/
theorem F37_spec {k : Value → W} {a m : Nat} (hS : Ls w p c l) (hl : l.length < 2000000000) (ha : a ≤ l.length) (hm : m < 4000000000) (hk : ∀ p' c', Sl NwK w p' ((l.drop a).take m) → k (.slice p' ((l.drop a).take m).length c') w) : F37 k p l.length c (a : Nat) (m : Nat) w := by
  unfold F37
  refine run_min ?_
  rw [Nat.min_eq_left ha, show addI .i64 ((a : Nat) : Int) ((m : Nat) : Int) = ((a + m : Nat) : Int) from (wrap_i64 (by omega) (by omega)).trans (by omega)]
  refine run_min ?_
  have hc := hS.2
  rw [Req_iff, Req_iff, Int.toNat_natCast, Int.toNat_natCast]
  refine ⟨⟨by omega, by omega⟩, ⟨by omega, by omega⟩, ?_⟩
  have hs := (hS.1.drop (n := a) (c := c) hc).take m
  have e : min (a + m) l.length - a = ((l.drop a).take m).length := by rw [List.length_take, List.length_drop]; omega
  rw [e]
  exact hk _ _ hs
theorem F34_spec {k : Value → W} {x y : Int} (hk : ∀ w', Fr (fun _ => False) w w' → k (.agg #[.int .i64 x, .int .i64 y]) w') : F34 k x y w := by
  unfold F34
  refine new_intro fun n3 w1 e1 b1 f1 z1 => new_intro fun n4 w2 e2 b2 f2 z2 => ?_
  have b12 := b1.fr f2 id
  refine load_int (i := 0) b12 rfl (load_int (i := 1) b12 rfl ?_)
  refine store_intro (i := 0) b2 (by simp) rfl fun w3 b3 f3 z3 => ?_
  refine store_intro (i := 1) b3 (by simp) rfl fun w4 b4 f4 z4 => ?_
  refine load_int (i := 0) b4 rfl (load_int (i := 1) b4 rfl (hk w4 ?_))
  exact (f1.trans f2 fun _ h => h.elim).trans (f3.trans f4 fun _ h => .inl h) fun b h => .inr (by have h : b = n4 := h; omega)
theorem back_ii {f : Int → Int → W} {x y : Int} {w : World} (h : f x y w) : Back (.s (.agg [(.int .i64), (.int .i64)])) f (.returned (.agg #[.int .i64 x, .int .i64 y])) w := ⟨(x, y, ()), rfl, h⟩
/-- skSame, of equal lists. -/
theorem F36_spec {k : Value → W} {q : Option Addr} {d : Nat} (hA : Sl ItK w p l) (hB : Sl NwK w q l) (hl : l.length < 4000000000) (hk : ∀ w', Fr (fun _ => False) w w' → k (.bool true) w') : F36 k p l.length c q l.length d w := by
  unfold F36
  rw [show (((l.length : Nat) : Int) != ((l.length : Nat) : Int)) = false by simp, BIf_false]
  refine F36_L1_rule (I := fun p1 l1 c1 p2 l2 c2 i w' => p1 = p ∧ l1 = l.length ∧ p2 = q ∧ l2 = l.length ∧ ∃ t : Nat, i = ((t : Nat) : Int) ∧ t ≤ l.length ∧ Fr (fun _ => False) w w')
    (μ := fun p1 l1 c1 p2 l2 c2 i w' => l.length - i.toNat) ?_ ⟨rfl, rfl, rfl, rfl, 0, rfl, Nat.zero_le _, Fr.refl _ _⟩
  rintro _ l1 c1 _ l2 c2 _ w1 ⟨rfl, e1, rfl, e2, t, rfl, ht, f1⟩
  unfold F36_L1
  rw [e1, e2]
  by_cases hlt : t < l.length
  · rw [decide_eq_true (show ((t : Nat) : Int) < ((l.length : Nat) : Int) by omega), BIf_true]
    refine drw_intro fun w2 f2 z2 => ?_
    have f02 := f1.trans f2 fun _ h => h.elim
    have hx : l[t]? = some l[t] := List.getElem?_eq_getElem hlt
    obtain ⟨q1, o1, rfl, h0, h1⟩ := (hA.fr0 f02).get hx
    obtain ⟨q2, o2, rfl, h0', h1'⟩ := (hB.fr0 f02).get hx
    simp only [NN_mk, Int.toNat_natCast, add_mk]
    refine ⟨by omega, LoadT_int.2 ⟨_, h0, LoadT_int.2 ⟨_, h1, ?_⟩⟩⟩
    refine ⟨by omega, LoadT_int.2 ⟨_, h0', LoadT_int.2 ⟨_, h1', ?_⟩⟩⟩
    refine F34_call (F34_spec fun w3 f3 => back_ii ?_)
    have c0 := (f3.cell (a := ⟨q1, o1 + t * 2 + 0, none⟩) (cell_lt h0) id).trans h0
    have c1' := (f3.cell (a := ⟨q1, o1 + t * 2 + 1, none⟩) (cell_lt h1) id).trans h1
    have d0 := (f3.cell (a := ⟨q2, o2 + t * 2 + 0, none⟩) (cell_lt h0') id).trans h0'
    have d1 := (f3.cell (a := ⟨q2, o2 + t * 2 + 1, none⟩) (cell_lt h1') id).trans h1'
    refine ⟨c0, c1', ?_⟩
    refine raws_b (neq37 _ _ _ _ w3) ?_
    refine ⟨d0, d1, ?_⟩
    rw [BIf_false, add64 (by omega)]
    refine ⟨⟨by trivial, by trivial, by trivial, by trivial, t + 1, by trivial, hlt, f02.trans f3 fun _ h => h.elim⟩, ?_⟩
    show l.length - ((t + 1 : Nat) : Int).toNat < l.length - ((t : Nat) : Int).toNat
    omega
  · rw [decide_eq_false (show ¬ ((t : Nat) : Int) < ((l.length : Nat) : Int) by omega), BIf_false]
    exact hk w1 f1
end
end Go.Proofs.Ytfokodpnoiilbaa.E
