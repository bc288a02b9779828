/-
  FnBAParts: the walk from its arguments on.
-/
import Derived.Test.YtooejhmelodiaaaBaW
import Derived.Test.YtooejhmelodiaaaRow
namespace Go.Proofs.Ytooejhmelodiaaa.E
open Go
set_option linter.unusedSimpArgs false
set_option linter.unusedVariables false
set_option maxRecDepth 100000
set_option maxHeartbeats 8000000

section
variable {k : Value → W} {w : World}
theorem run_min {f : Int → W} {a b : Nat} (hk : f ((min a b : Nat) : Int) w) : NextT Try.prog (builtin .min #[3, 3] 3 [false, true].toArray [.int .i64 (a : Nat), .int .i64 (b : Nat)].toArray) (.s (.one (.int .i64))) f w := by
  refine NextT_int (n := ((min a b : Nat) : Int)) (w' := w) ?_ hk
  show (Sem.run Try.prog (do let a ← Builtin.min_ _ _ _; pure (Next.value a)) w) = _
  have := run_min_int2 (P := Try.prog) (w := w) #[3, 3] 3 .i64 .i64 (a : Nat) (b : Nat)
  rw [Sem.run_bind, show [Value.int .i64 (a : Nat), .int .i64 (b : Nat)].toArray = #[.int .i64 (a : Nat), .int .i64 (b : Nat)] from rfl, this]
  simp only [Result.andThen_ok, Sem.run_pure]
  congr 3
  split <;> omega
/-- append of the steps that another list has. -/
theorem app_st {ty : TypeId} {cs : Array Bool} {p q : Option Addr} {l c m d : Nat} {xs ys : List BS} {f : Option Addr → Nat → Nat → W} (h : SlO StK w p l c xs) (h' : SlO StK w q m d ys) (hm : 0 < m) (hl : l + m < 4294967296)
    (hk : ∀ p' c' w', Fr (fun b => bl p b) w w' → SlO StK w' p' (l + m) c' (xs ++ ys) → (∀ b, bl p' b → bl p b ∨ w.heap.size ≤ b) → f p' (l + m) c' w') :
    NextT Try.prog (builtin .append #[23, 23] ty cs [.slice p l c, .slice q m d].toArray) (.s (.one .slice)) f w := by
  obtain ⟨i31, g1, g2, g3, g4⟩ := inf31
  obtain ⟨vs, hO, e1, hR⟩ := h
  obtain ⟨us, hO', e2, hR'⟩ := h'
  obtain ⟨q', rest, rfl, hBq⟩ := hO'.get hm
  have hcell : ∀ (j : Nat) u, us[j]? = some u → w.cell? ((⟨q', 0, none⟩ : Addr).add j) = some u := fun j u hu => by
    rw [add_mk, Nat.zero_add, hO'.cell (by have := (List.getElem?_eq_some_iff.1 hu).1; rw [← hO'.1]; exact this)]; exact hu
  have hone : ∀ u ∈ us, u.oneCell' = true := fun u hu => by
    obtain ⟨j, hj⟩ := List.mem_iff_getElem?.1 hu
    have hjl := (List.getElem?_eq_some_iff.1 hj).1
    rw [hO'.1] at hjl
    have hjl : j < m * 6 := hjl
    obtain ⟨a0, a1, a2, a3, a4, a5⟩ := hR' _ _ (List.getElem?_eq_getElem (show j / 6 < ys.length by omega))
    have key : ∀ (r : Nat) (v : Value), us[0 + j / 6 * 6 + r]? = some v → j % 6 = r → v.oneCell' = true → u.oneCell' = true := fun r v h1 h2 h3 => by
      rw [show 0 + j / 6 * 6 + r = j by omega, hj] at h1
      cases h1; exact h3
    have : j % 6 = 0 ∨ j % 6 = 1 ∨ j % 6 = 2 ∨ j % 6 = 3 ∨ j % 6 = 4 ∨ j % 6 = 5 := by omega
    rcases this with e | e | e | e | e | e
    · exact key 0 _ a0 e rfl
    · exact key 1 _ a1 e rfl
    · exact key 2 _ a2 e rfl
    · exact key 3 _ a3 e rfl
    · exact key 4 _ a4 e rfl
    · exact key 5 _ a5 e rfl
  refine append_own und23 g1 g2 g3 (by decide) rfl g4 hO (m := m) hO'.1 hcell hone hl fun p' c' w' f' O' hp' => hk p' c' w' f' ⟨_, O', by rw [List.length_append, e1, e2], ?_⟩ hp'
  have f0 : ∀ {zs : List BS} {ws : List Value}, Rows StK w 0 ws zs → Rows StK w' 0 ws zs := fun h i x hx => h i x hx
  exact (f0 hR).append (by rw [hO.1, e1]) (f0 hR')
def t9 : List Value := [.int .i64 12, .int .i64 0, .int .i64 1, .int .u64 0, .int .i64 0, .bool false, .int .i64 13, .int .i64 0, .int .i64 1, .int .u64 0, .int .i64 0, .bool false, .int .i64 11, .int .i64 2, .int .i64 3, .int .u64 0, .int .i64 0, .bool false,
  .int .i64 12, .int .i64 2, .int .i64 3, .int .u64 0, .int .i64 0, .bool false, .int .i64 14, .int .i64 0, .int .i64 0, .int .u64 0, .int .i64 0, .bool false, .int .i64 14, .int .i64 4, .int .i64 0, .int .u64 0, .int .i64 0, .bool false,
  .int .i64 10, .int .i64 5, .int .i64 0, .int .u64 0, .int .i64 0, .bool false, .int .i64 10, .int .i64 2, .int .i64 0, .int .u64 0, .int .i64 0, .bool false, .int .i64 10, .int .i64 3, .int .i64 0, .int .u64 0, .int .i64 0, .bool false]
theorem fill9 : ∀ i : TypeInfo, i.size = 6 → Instr.fill (fun j => some (j * i.size, i.size)) ((Array.range (9 * i.size)).map (z31.cells[· % z31.cells.size]!)) [(0, .agg #[.int .i64 12, .int .i64 0, .int .i64 1, .int .u64 0, .int .i64 0, .bool false]), (1, .agg #[.int .i64 13, .int .i64 0, .int .i64 1, .int .u64 0, .int .i64 0, .bool false]), (2, .agg #[.int .i64 11, .int .i64 2, .int .i64 3, .int .u64 0, .int .i64 0, .bool false]), (3, .agg #[.int .i64 12, .int .i64 2, .int .i64 3, .int .u64 0, .int .i64 0, .bool false]), (4, .agg #[.int .i64 14, .int .i64 0, .int .i64 0, .int .u64 0, .int .i64 0, .bool false]), (5, .agg #[.int .i64 14, .int .i64 4, .int .i64 0, .int .u64 0, .int .i64 0, .bool false]), (6, .agg #[.int .i64 10, .int .i64 5, .int .i64 0, .int .u64 0, .int .i64 0, .bool false]), (7, .agg #[.int .i64 10, .int .i64 2, .int .i64 0, .int .u64 0, .int .i64 0, .bool false]), (8, .agg #[.int .i64 10, .int .i64 3, .int .i64 0, .int .u64 0, .int .i64 0, .bool false])] = some t9.toArray := by
  intro i h; rw [h]; kernel_rfl
theorem rows9 (w : World) : Rows StK w 0 t9 tail9 := fun i x hx => by
  have hi : i < 9 := (List.getElem?_eq_some_iff.1 hx).1
  have : i = 0 ∨ i = 1 ∨ i = 2 ∨ i = 3 ∨ i = 4 ∨ i = 5 ∨ i = 6 ∨ i = 7 ∨ i = 8 := by omega
  rcases this with rfl | rfl | rfl | rfl | rfl | rfl | rfl | rfl | rfl <;> (cases hx; exact ⟨rfl, rfl, rfl, rfl, rfl, rfl⟩)
theorem end26 {n : Nat} {b : Bool} {x : Int} {p : Option Addr} {l c : Nat} {k : W} (hB : Blk w n 26 [.bool false, .int .u64 0, .slice none 0 0]) (hk : ∀ w', Fr (fun b => b = n) w w' → k w') :
    (Store1 ⟨n, 0, none⟩ (.bool b) <| Store1 ⟨n, 1, none⟩ (.int .u64 x) <| Store1 ⟨n, 2, none⟩ (.slice p l c) <| k) w :=
  store_intro (i := 0) hB (by simp) rfl fun w1 b1 f1 z1 => store_intro (i := 1) b1 (by simp) rfl fun w2 b2 f2 z2 => store_intro (i := 2) b2 (by simp) rfl fun w3 b3 f3 z3 => hk w3 ((f1.trans f2 fun _ h => .inl h).trans f3 fun _ h => .inl h)
theorem nu_sl {p : Option Addr} {X : List Nat} {q : Option Addr} {o : Nat} (h : Sl NuK w p X) : Sl NuK w p X := h
theorem F3_J1_spec {A B : List Nat} {p : Option Addr} {c : Nat} (hA : A.length ≤ 20) (hB : B.length ≤ 20) (h : Sl AnK w p (runA [] (allS A B))) (hk : ∀ w', Fr (fun _ => False) w w' → k (.bool true) w') :
    F3_J1 k p (allS A B).length c (((allS A B).length : Nat) : Int) w := by
  obtain ⟨gx, lx, _⟩ := sets_good A [] Good.nil
  obtain ⟨gy, ly, _⟩ := sets_good B [] Good.nil
  obtain ⟨_, pre, e, hp⟩ := all_run hA hB
  obtain ⟨_, _, ht⟩ := parts _ (sets A []) (sets B []) (Nat.le_refl _) gx gy
  have hn : (allS A B).length = pre.length + 5 := by rw [← runA_len _ [], e, List.length_append]; rfl
  rw [e] at h
  rw [hn]
  generalize hx : sets A [] = x at *
  have hxl : tot x < 100000 := by have := tot_le x; simp at lx; omega
  have g : ∀ (i : Nat) (b : BA), [(⟨false, 0, nums x⟩ : BA), ⟨false, 0, nums x⟩, ⟨false, 0, []⟩, ⟨false, tot (andM x (sets B [])), []⟩, ⟨false, tot (nandM x (sets B [])), []⟩][i]? = some b → ∀ w', Fr (fun _ => False) w w' → ∃ q o, p = some ⟨q, o, none⟩ ∧ AnK.P w' (fun j => w'.cell? ⟨q, o + (pre.length + i) * 4 + j, none⟩) b := fun i b hb w' f =>
    (h.fr0 f).get (by rw [List.getElem?_append_right (by omega), Nat.add_sub_cancel_left]; exact hb)
  unfold F3_J1
  refine drw_intro fun w1 f1 z1 => ?_
  have s5 : ∀ j : Nat, 0 < j → j ≤ 5 → subI .i64 ((pre.length + 5 : Nat) : Int) ((j : Nat) : Int) = ((pre.length + (5 - j) : Nat) : Int) := fun j h1 h2 => by
    rw [subI_i64 (by omega) (by omega)]; omega
  rw [show (5 : Int) = ((5 : Nat) : Int) from rfl, show (4 : Int) = ((4 : Nat) : Int) from rfl, show (3 : Int) = ((3 : Nat) : Int) from rfl, show (2 : Int) = ((2 : Nat) : Int) from rfl, show (1 : Int) = ((1 : Nat) : Int) from rfl, s5 5 (by decide) (by decide), s5 4 (by decide) (by decide), s5 3 (by decide) (by decide), s5 2 (by decide) (by decide), s5 1 (by decide) (by decide)]
  obtain ⟨q, o, rfl, p0, c0, _, _, h2, _, n0⟩ := g 0 _ rfl w1 f1
  obtain ⟨q', o', e1, p1, c1, _, _, h2', _, n1⟩ := g 1 _ rfl w1 f1
  cases e1
  simp only [NN_mk, Int.toNat_natCast, add_mk]
  refine ⟨by omega, LoadT_slice.2 ⟨_, _, _, h2, ⟨by omega, LoadT_slice.2 ⟨_, _, _, h2', ?_⟩⟩⟩⟩
  refine F6_call (F6_spec n0 n1 (by rw [nums_len]; omega) fun w2 f2 => back_bool ?_)
  have f02 := f1.trans f2 fun _ h => h.elim
  rw [BIf_true]
  obtain ⟨_, _, e2, _, _, _, v2, _⟩ := g 2 _ rfl w2 f02
  cases e2
  obtain ⟨_, _, e3, _, _, _, v3, _⟩ := g 3 _ rfl w2 f02
  cases e3
  obtain ⟨_, _, e4, _, _, _, v4, _⟩ := g 4 _ rfl w2 f02
  cases e4
  obtain ⟨_, _, e5, p5, c5, _, _, v5, _⟩ := g 0 _ rfl w2 f02
  cases e5
  refine ⟨by omega, LoadT_int.2 ⟨_, v2, ?_⟩⟩
  rw [show ((((0 : Nat) : Int)) == 0) = true from rfl, BIf_true]
  refine ⟨by omega, LoadT_int.2 ⟨_, v3, ⟨by omega, LoadT_int.2 ⟨_, v4, ⟨by omega, LoadT_slice.2 ⟨_, _, _, v5, bind_intro ?_⟩⟩⟩⟩⟩⟩
  have hnl : (nums x).length = tot x := nums_len x
  show k (.bool (addI .u64 ((tot (andM x (sets B [])) : Nat) : Int) ((tot (nandM x (sets B [])) : Nat) : Int) == IntKind.wrap .u64 (((nums x).length : Nat) : Int))) w2
  rw [addI_u64 (by omega) (by omega), wrap_u64 (by omega) (by omega), hnl, ← ht, show (((tot (andM x (sets B [])) : Nat) : Int) + ((tot (nandM x (sets B [])) : Nat) : Int) == ((tot (andM x (sets B [])) + tot (nandM x (sets B [])) : Nat) : Int)) = true by rw [beq_iff_eq]; omega]
  exact hk w2 f02
/-- What F3 does behind the two lists of steps. -/
theorem tail_spec {A B : List Nat} {p : Option Addr} {c : Nat} {f : Option Addr → Nat → Nat → W} {p' : Option Addr} {c' : Nat} (h : SlO StK w p (madeS 0 A).length c (madeS 0 A)) (h' : SlO StK w p' (madeS 1 B).length c' (madeS 1 B)) (hA : A.length ≤ 20) (hB : B.length ≤ 20)
    (hk : ∀ w' q d, Sl StK w' q (allS A B) → Fr (fun b => bl p b ∨ w.heap.size ≤ b) w w' → f q (allS A B).length d w') :
    (NextT Go.Proofs.Try.prog (builtin .append #[23, 23] 23 [false, false].toArray [.slice p (madeS 0 A).length c, .slice p' (madeS 1 B).length c'].toArray) (.s (.one .slice)) fun s15p s15l s15c =>
   RawT Go.Proofs.Try.prog (Instr.buildSlice 23 9 [(0, .agg #[.int .i64 12, .int .i64 0, .int .i64 1, .int .u64 0, .int .i64 0, .bool false]), (1, .agg #[.int .i64 13, .int .i64 0, .int .i64 1, .int .u64 0, .int .i64 0, .bool false]), (2, .agg #[.int .i64 11, .int .i64 2, .int .i64 3, .int .u64 0, .int .i64 0, .bool false]), (3, .agg #[.int .i64 12, .int .i64 2, .int .i64 3, .int .u64 0, .int .i64 0, .bool false]), (4, .agg #[.int .i64 14, .int .i64 0, .int .i64 0, .int .u64 0, .int .i64 0, .bool false]), (5, .agg #[.int .i64 14, .int .i64 4, .int .i64 0, .int .u64 0, .int .i64 0, .bool false]), (6, .agg #[.int .i64 10, .int .i64 5, .int .i64 0, .int .u64 0, .int .i64 0, .bool false]), (7, .agg #[.int .i64 10, .int .i64 2, .int .i64 0, .int .u64 0, .int .i64 0, .bool false]), (8, .agg #[.int .i64 10, .int .i64 3, .int .i64 0, .int .u64 0, .int .i64 0, .bool false])].toArray) (.s (.one .slice)) fun s16p s16l s16c =>
   NextT Go.Proofs.Try.prog (builtin .append #[23, 23] 23 [false, false].toArray [.slice s15p s15l s15c, .slice s16p s16l s16c].toArray) (.s (.one .slice)) f) w := by
  have lA : (madeS 0 A).length = A.length + 1 := by simp [madeS]
  have lB : (madeS 1 B).length = B.length + 1 := by simp [madeS]
  obtain ⟨i31, g1, g2, g3, g4⟩ := inf31
  refine app_st h h' (by omega) (by omega) fun p1 c1 w1 f1 O1 hp1 => ?_
  refine build_intro und23 g1 g2 (by omega) (by omega) (fill9 i31 g3) fun w2 f2 b2 z2 => ?_
  have O9 : SlO StK w2 (some ⟨w1.heap.size, 0, none⟩) 9 9 tail9 := SlO.made (K := StK) b2 rfl (by decide) rfl (rows9 w2)
  refine app_st (O1.fr0 f2) O9 (by omega) (by omega) fun p2 c2 w3 f3 O3 hp3 => ?_
  have e : (madeS 0 A).length + (madeS 1 B).length + 9 = (allS A B).length := by simp [allS, tail9]; omega
  rw [e] at O3 ⊢
  have hz1 := f1.size
  refine hk w3 p2 c2 O3.sl (((f1.mono fun b hb => .inl (.inl hb)).trans f2 fun b hb => hb.elim).trans f3 fun b hb => ?_)
  rcases hp1 b hb with h | h
  · exact .inl (.inl h)
  · exact .inr h
/-- FnBAParts. -/
theorem F3_spec {ap bp : Option Addr} {al ac bl' bc : Nat} {X Y : List Nat} (hX : Nu w ap X) (hal : al = X.length) (hac : al ≤ ac) (hX1 : ∀ x ∈ X, x < 18446744073709551616) (hY : Nu w bp Y) (hbl : bl' = Y.length) (hbc : bl' ≤ bc) (hY1 : ∀ x ∈ Y, x < 18446744073709551616) (hk : ∀ w', Fr (fun _ => False) w w' → k (.bool true) w') :
    F3 k ap al ac bp bl' bc w := by
  subst hal hbl
  unfold F3
  by_cases hb1 : X.length > 2147483647
  · rw [decide_eq_true (show ((X.length : Nat) : Int) > 2147483647 by omega), BIf_true]
    exact hk w (Fr.refl _ _)
  rw [decide_eq_false (show ¬ ((X.length : Nat) : Int) > 2147483647 by omega), BIf_false]
  by_cases hb2 : Y.length > 2147483647
  · rw [decide_eq_true (show ((Y.length : Nat) : Int) > 2147483647 by omega), BIf_true]
    exact hk w (Fr.refl _ _)
  rw [decide_eq_false (show ¬ ((Y.length : Nat) : Int) > 2147483647 by omega), BIf_false]
  have nuT : ∀ {p : Option Addr} {Z : List Nat} {c : Nat}, Nu w p Z → Z.length ≤ c → Nu w (sliceA p 0 c 1) (Z.take 20) := fun {p Z c} h hc i x hx => by
    have hi := (List.getElem?_eq_some_iff.1 hx).1
    simp at hi
    rw [List.getElem?_take, if_pos (by omega)] at hx
    obtain ⟨a, rfl, ha⟩ := h i x hx
    refine ⟨a, ?_, ha⟩
    unfold sliceA
    rw [if_neg (by omega), Option.map_some, Nat.zero_mul]
    obtain ⟨u, v, z⟩ := a
    rfl
  refine run_min (b := 20) (Req_iff.2 ⟨by omega, ?_⟩)
  rw [Int.toNat_natCast, Nat.sub_zero, Nat.sub_zero]
  have eA : min X.length 20 = (X.take 20).length := by simp; omega
  have eB : min Y.length 20 = (Y.take 20).length := by simp; omega
  have lA : (X.take 20).length ≤ 20 := by simp; omega
  have lB : (Y.take 20).length ≤ 20 := by simp; omega
  rw [eA]
  have hXt := nuT hX hac
  have hYt := nuT hY hbc
  refine F4_call (F4_spec (on := 0) hXt lA (fun x hx => hX1 x (List.mem_of_mem_take hx)) fun w1 p1 c1 b1 n1 q1 l1 d1 O1 hp1 f1 => back_mk ?_)
  refine new_intro fun n8 w2 e2 b2 f2 z2 => end26 b2 fun w3 f3 => ?_
  have f13 : Fr (fun _ => False) w1 w3 := f2.trans f3 fun b hb => .inr (by have hb : b = n8 := hb; omega)
  have f03 := f1.trans f13 fun _ h => h.elim
  refine run_min (b := 20) (Req_iff.2 ⟨by omega, ?_⟩)
  rw [Int.toNat_natCast, Nat.sub_zero, Nat.sub_zero]
  rw [eB]
  refine F4_call (F4_spec (on := 1) (hYt.fr0 f03) lB (fun x hx => hY1 x (List.mem_of_mem_take hx)) fun w4 p4 c4 b4 n4 q4 l4 d4 O4 hp4 f4 => back_mk ?_)
  refine new_intro fun n14 w5 e5 b5 f5 z5 => end26 b5 fun w6 f6 => ?_
  have f46 : Fr (fun _ => False) w4 w6 := f5.trans f6 fun b hb => .inr (by have hb : b = n14 := hb; omega)
  have f36 := f4.trans f46 fun _ h => h.elim
  have f06 := f03.trans f36 fun _ h => h.elim
  refine tail_spec ((O1.fr0 f13).fr0 f36) (O4.fr0 f46) lA lB fun w7 q d hS f7 => ?_
  have f07 : Fr (fun _ => False) w w7 := f06.trans f7 fun b hb => .inr (by
    rcases hb with h | h
    · exact hp1 b h
    · have := f06.size; omega)
  obtain ⟨gx, lx, nx⟩ := sets_good (X.take 20) [] Good.nil
  obtain ⟨okr, pre, e, hp⟩ := all_run lA lB
  have hn : (allS (X.take 20) (Y.take 20)).length = pre.length + 5 := by rw [← runA_len _ [], e, List.length_append]; rfl
  refine F5_call (F5_spec hS okr (by omega) fun w8 q8 c8 hA8 f8 => back_slice ?_)
  have f08 := f07.trans f8 fun _ h => h.elim
  rw [show ((((allS (X.take 20) (Y.take 20)).length : Nat) : Int) == 0) = false by rw [beq_eq_false_iff_ne]; omega, BIf_false]
  have done : F3_J1 k q8 (allS (X.take 20) (Y.take 20)).length c8 (((allS (X.take 20) (Y.take 20)).length : Nat) : Int) w8 := F3_J1_spec lA lB hA8 fun w9 f9 => hk w9 (f08.trans f9 fun _ h => h.elim)
  by_cases h0 : X.length > 0
  · rw [decide_eq_true (show ((X.length : Nat) : Int) > 0 by omega), BIf_true]
    have hA9 := hA8
    rw [e] at hA9
    obtain ⟨qa, oa, rfl, p0, c0, _, _, v0, _⟩ := hA9.get (i := pre.length) (x := ⟨false, 0, nums (sets (X.take 20) [])⟩) (by rw [List.getElem?_append_right (Nat.le_refl _), Nat.sub_self]; rfl)
    rw [NN_mk, subI_i64 (by omega) (by omega), show (((allS (X.take 20) (Y.take 20)).length : Nat) : Int) - 5 = ((pre.length : Nat) : Int) by omega, Int.toNat_natCast]
    simp only [add_mk]
    refine ⟨by omega, LoadT_slice.2 ⟨_, _, _, v0, ?_⟩⟩
    have hpos : 0 < (nums (sets (X.take 20) [])).length := by
      rw [nums_len]
      refine tot_pos gx (nx fun h => ?_)
      have h := congrArg List.length h
      rw [← eA] at h
      have : ([] : List Nat).length = 0 := rfl
      omega
    rw [show ((((nums (sets (X.take 20) [])).length : Nat) : Int) == 0) = false by rw [beq_eq_false_iff_ne]; omega, BIf_false]
    exact done
  · rw [decide_eq_false (show ¬ ((X.length : Nat) : Int) > 0 by omega), BIf_false]
    exact done
theorem nu_of {a : Option Addr} {len cap : Nat} {zs : List Int} (h : IsRow .u64 w a len cap zs) : ∃ X : List Nat, Nu w a X ∧ len = X.length ∧ len ≤ cap ∧ ∀ x ∈ X, x < 18446744073709551616 := by
  rcases h with ⟨rfl, rfl, rfl, rfl⟩ | ⟨x, rfl, h1, h2, h3, h4, h5⟩
  · exact ⟨[], fun i x hx => by simp at hx, rfl, Nat.le_refl _, fun x hx => by cases hx⟩
  · refine ⟨(zs.take len).map Int.toNat, fun i y hy => ⟨x, rfl, ?_⟩, by simp; omega, h1, fun y hy => ?_⟩
    · have hi : i < ((zs.take len).map Int.toNat).length := (List.getElem?_eq_some_iff.1 hy).1
      simp only [List.length_map, List.length_take] at hi
      rw [h4 i (by omega)]
      rw [List.getElem?_map, List.getElem?_take, if_pos (by omega)] at hy
      obtain ⟨z, hz, rfl⟩ := Option.map_eq_some_iff.1 hy
      have := wf_u64 (h5 z (List.mem_of_getElem? hz))
      rw [List.getD_eq_getElem?_getD, hz]
      show some (Value.int .u64 z) = some (.int .u64 ((z.toNat : Nat) : Int))
      rw [show ((z.toNat : Nat) : Int) = z by omega]
    · obtain ⟨z, hz, rfl⟩ := List.mem_map.1 hy
      have := wf_u64 (h5 z (List.mem_of_mem_take hz))
      omega
end
end Go.Proofs.Ytooejhmelodiaaa.E
