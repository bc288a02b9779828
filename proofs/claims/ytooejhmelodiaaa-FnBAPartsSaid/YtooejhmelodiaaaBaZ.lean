/-
  Bit arrays: the steps that make an array with some bits.
-/
import Derived.Test.YtooejhmelodiaaaBaY
namespace Go.Proofs.Ytooejhmelodiaaa.E
open Go
set_option linter.unusedSimpArgs false
set_option linter.unusedVariables false
set_option maxRecDepth 100000
set_option maxHeartbeats 8000000

/-- Words that can be read at p. -/
def Nu (w : World) (p : Option Addr) (X : List Nat) : Prop := ∀ (i : Nat) x, X[i]? = some x → ∃ a, p = some a ∧ w.cell? (a.add i) = some (uv x)
theorem Nu.fr0 {w w' : World} {p : Option Addr} {X : List Nat} (h : Nu w p X) (f : Fr (fun _ => False) w w') : Nu w' p X := fun i x hx => by
  obtain ⟨a, h1, h2⟩ := h i x hx
  exact ⟨a, h1, by rw [f.cell (cell_lt h2) id]; exact h2⟩
theorem us_get (X : List Nat) (i : Nat) : (us X)[i]? = X[i]?.map uv := List.getElem?_map
theorem us_us (X : List Nat) : Us (us X) := fun u hu => by obtain ⟨x, _, rfl⟩ := List.mem_map.1 hu; rfl
section
variable {k : Value → W} {w : World}
/-- append of a part of another slice (or of nothing). -/
theorem app_part {e t ty : TypeId} {cs : Array Bool} {p q : Option Addr} {l c m l2 c2 b : Nat} {vs us : List Value} {z : Value} {f : Option Addr → Nat → Nat → W} (hu : Try.prog.underlying t = some (.slice e)) (hinf : ∃ i, Try.prog.info? e = some i ∧ i.zero = some z ∧ i.size = 1 ∧ i.bytes ≤ 4096) (hzc : z.cells.size = 1)
    (hO : Own w e p l c vs) (hQ : Own w e q l2 c2 us) (h1 : Us us) (hb : b + m ≤ l2) (hl : l < 1000000) (hm : l2 < 1000000)
    (hk : ∀ p' c' w', Fr (fun b => bl p b) w w' → Own w' e p' (l + m) c' (vs ++ (us.drop b).take m) → (∀ b, bl p' b → bl p b ∨ w.heap.size ≤ b) → f p' (l + m) c' w') :
    NextT Try.prog (builtin .append #[t, t] ty cs [.slice p l c, .slice (sliceA q b c2 1) m (c2 - b)].toArray) (.s (.one .slice)) f w := by
  obtain ⟨ie, g1, g2, g3, g4⟩ := hinf
  have hml := hQ.1
  rcases hQ.2 with ⟨rfl, rfl, rfl⟩ | ⟨q', rest, rfl, hB, hqc, _⟩
  · have hm0 : m = 0 := by omega
    have hb0 : b = 0 := by omega
    subst hm0 hb0
    rw [show sliceA none 0 0 1 = none from rfl]
    have hus : us = [] := List.length_eq_zero_iff.1 hml
    subst hus
    have hr := run_append_owned_none (P := Try.prog) (w := w) 0 t ty e ie 1 hu g1 (.slice p l c) l vs hO.owns
    exact NextT_slice (builtin_append hr) (hk p c w (Fr.refl _ _) (by simpa using hO) fun b hb => .inl hb)
  · have hld : l2 ≤ c2 := by rw [← hqc, List.length_append]; omega
    have hsa : ∃ a, sliceA (some ⟨q', 0, none⟩) b c2 1 = some a ∧ ∀ (j : Nat) u, ((us.drop b).take m)[j]? = some u → w.cell? (a.add j) = some u := by
      by_cases hbc : b = c2
      · refine ⟨⟨q', 0, none⟩, by unfold sliceA; rw [if_pos hbc.symm], fun j u hj => ?_⟩
        have := (List.getElem?_eq_some_iff.1 hj).1
        simp at this; omega
      · refine ⟨⟨q', b, none⟩, sliceAi (by omega), fun j u hj => ?_⟩
        have hjm : j < m := by have := (List.getElem?_eq_some_iff.1 hj).1; simp at this; omega
        rw [List.getElem?_take, if_pos hjm, List.getElem?_drop] at hj
        rw [add_mk, hQ.cell (by omega)]; exact hj
    obtain ⟨a, ea, hcell⟩ := hsa
    rw [ea]
    refine append_own hu g1 g2 g3 (by decide) hzc g4 hO.n (m := m) (news := (us.drop b).take m) (by simp; omega) hcell (fun u hu' => h1 u (List.mem_of_mem_drop (List.mem_of_mem_take hu'))) (by omega) fun p' c' w' f' o' hp' => hk p' c' w' f' o'.one hp'
theorem F11_spec {p : Option Addr} {l c x : Nat} {X : List Nat} (hO : Own w 24 p l c (us X)) (hl : l < 1000000) (hk : ∀ n : Nat, n ≤ l → k (.int .i64 ((n : Nat) : Int)) w) : F11 k p l c ((x : Nat) : Int) w := by
  have hXl : X.length = l := by have := hO.1; simpa using this
  unfold F11
  refine F11_L1_rule (I := fun p' l' c' k' n w' => p' = p ∧ l' = l ∧ c' = c ∧ w' = w ∧ ∃ m : Nat, n = ((m : Nat) : Int) ∧ m ≤ l) (μ := fun p' l' c' k' n w' => l - n.toNat) ?_ ⟨rfl, rfl, rfl, rfl, 0, rfl, Nat.zero_le _⟩
  rintro _ _ c' y _ w1 ⟨rfl, rfl, e, rfl, m, rfl, hm⟩
  unfold F11_L1
  by_cases hlt : m < X.length
  · rw [decide_eq_true (by omega), BIf_true]
    have hx : X[m]? = some X[m] := List.getElem?_eq_getElem hlt
    refine ldO hO (by rw [us_get, hx]; rfl) ?_
    refine BIf_intro (fun _ => ?_) fun _ => hk m hm
    rw [addI_i64 (by omega) (by omega)]
    refine ⟨⟨rfl, rfl, e, rfl, m + 1, by omega, by omega⟩, by omega⟩
  · rw [decide_eq_false (by omega), BIf_false]
    exact hk m hm
theorem F10_spec {p : Option Addr} {l c x : Nat} {X : List Nat} (hO : Own w 24 p l c (us X)) (hl : l < 1000000) (hk : ∀ b, k (.bool b) w) : F10 k p l c ((x : Nat) : Int) w := by
  have hXl : X.length = l := by have := hO.1; simpa using this
  unfold F10
  refine F11_call (F11_spec hO hl fun n hn => back_int ?_)
  by_cases hlt : n < X.length
  · rw [decide_eq_true (by omega), BIf_true]
    have hx : X[n]? = some X[n] := List.getElem?_eq_getElem hlt
    exact ldO hO (by rw [us_get, hx]; rfl) (hk _)
  · rw [decide_eq_false (by omega), BIf_false]
    exact hk _
theorem inf24' : ∃ i, Try.prog.info? 24 = some i ∧ i.zero = some (uv 0) ∧ i.size = 1 ∧ i.bytes ≤ 4096 := inf24
/-- BAPut: some list. -/
theorem F8_spec {p : Option Addr} {l c x : Nat} {X : List Nat} (hO : Own w 24 p l c (us X)) (hl : l < 100000) (hk : ∀ w' p' l' c' X', Own w' 24 p' l' c' (us X') → l' ≤ l + 1 → Fr (fun _ => False) w w' → k (.slice p' l' c') w') : F8 k p l c ((x : Nat) : Int) w := by
  have hXl : X.length = l := by have := hO.1; simpa using this
  have hlc : l ≤ c := by
    rcases hO.2 with ⟨_, h1, h2⟩ | ⟨q, rest, _, _, h3, _⟩
    · omega
    · rw [← h3, List.length_append, us_len]; omega
  unfold F8
  refine F10_call (F10_spec hO (by omega) fun b => back_bool ?_)
  cases b with
  | true => rw [BIf_true]; exact hk w p l c X hO (by omega) (Fr.refl _ _)
  | false =>
    rw [BIf_false]
    refine F11_call (F11_spec hO (by omega) fun n hn => back_int ?_)
    obtain ⟨ie, g1, g2, g3, g4⟩ := inf24
    refine build_none und22 g1 fun w1 f1 b1 z1 => ⟨by omega, ?_⟩
    have hO1 := hO.fr f1 fun _ _ => id
    have hE : Own w1 24 (some ⟨w.heap.size, 0, none⟩) 0 0 (us []) := ⟨rfl, .inr ⟨_, [], rfl, b1, rfl, by decide⟩⟩
    rw [Int.toNat_natCast, Nat.sub_zero]
    refine app_part und22 inf24 (by decide) hE hO1 (us_us X) (b := 0) (m := n) (by omega) (by omega) (by omega) fun p2 c2 w2 f2 o2 hp2 => ?_
    have fr2 : ∀ b, bl p2 b → w.heap.size ≤ b := fun b hb => by
      rcases hp2 b hb with h | h
      · rw [bl_q.1 h]; exact Nat.le_refl _
      · omega
    have f02 : Fr (fun _ => False) w w2 := f1.trans f2 fun b hb => .inr (by rw [bl_q.1 hb]; exact Nat.le_refl _)
    refine drw_intro fun w3 f3 z3 => ⟨by omega, ?_⟩
    have f03 := f02.trans f3 fun _ h => h.elim
    have o3 := o2.fr f3 fun _ _ => id
    have hz3 := f03.size
    refine append1 (P := Try.prog) und22 g1 g2 g3 rfl g4 o3 (v := uv x) rfl rfl (by omega) fun p4 c4 w4 f4 o4 hp4 z4 => ?_
    have f04 : Fr (fun _ => False) w w4 := f03.trans f4 fun b hb => .inr (fr2 b hb)
    have fr4 : ∀ b, bl p4 b → w.heap.size ≤ b := fun b hb => by
      rcases hp4 b hb with h | h
      · exact fr2 b h
      · omega
    have hO4 := hO.fr f04 fun _ _ => id
    refine app_part und22 inf24 (by decide) o4 hO4 (us_us X) (b := n) (m := l - n) (by omega) (by omega) (by omega) fun p5 c5 w5 f5 o5 hp5 => ?_
    have hus : us ([] ++ X.take n ++ [x] ++ (X.drop n).take (l - n)) = us [] ++ ((us X).drop 0).take n ++ [uv x] ++ ((us X).drop n).take (l - n) := by
      unfold us; simp
    refine hk w5 p5 _ c5 ([] ++ X.take n ++ [x] ++ (X.drop n).take (l - n)) (by rw [hus]; exact o5) (by omega) (f04.trans f5 fun b hb => .inr (fr4 b hb))

/-! ## baMade -/
theorem und23 : Try.prog.underlying 23 = some (.slice 31) := by kernel_rfl
def z31 : Value := .agg #[.int .i64 0, .int .i64 0, .int .i64 0, .int .u64 0, .int .i64 0, .bool false]
theorem inf31 : ∃ i, Try.prog.info? 31 = some i ∧ i.zero = some z31 ∧ i.size = 6 ∧ i.bytes ≤ 4096 := ⟨_, rfl, by kernel_rfl, by kernel_rfl, Nat.le_of_ble_eq_true (by kernel_rfl)⟩
theorem fill31 (a b c : Int) (u : Int) (m : Int) (f : Bool) : ∀ i : TypeInfo, i.size = 6 → Instr.fill (fun j => some (j * i.size, i.size)) ((Array.range (1 * i.size)).map (z31.cells[· % z31.cells.size]!)) [(0, .agg #[.int .i64 a, .int .i64 b, .int .i64 c, .int .u64 u, .int .i64 m, .bool f])] = some [.int .i64 a, .int .i64 b, .int .i64 c, .int .u64 u, .int .i64 m, .bool f].toArray := by
  intro i h; rw [h]; kernel_rfl
def setS (on : Nat) (x : Nat) : BS := ⟨3, on, 0, x % 1152921504606846976⟩
def madeS (on : Nat) (X : List Nat) : List BS := ⟨2, 0, 0, 0⟩ :: X.map (setS on)
theorem back_mk {f : Option Addr → Nat → Nat → Bool → Int → Option Addr → Nat → Nat → W} {p p' : Option Addr} {l c l' c' : Nat} {b : Bool} {n : Int} (h : f p l c b n p' l' c' w) :
    Back (.tup [(.one .slice), (.agg [.bool, (.int .u64), .slice])]) f (.returned (.tuple #[.slice p l c, .agg #[.bool b, .int .u64 n, .slice p' l' c']])) w := ⟨((p, l, c), b, n, (p', l', c'), ()), rfl, h⟩
theorem F4_spec {X : List Nat} {p : Option Addr} {c on : Nat} (hX : Nu w p X) (hl : X.length ≤ 20) (hb : ∀ x ∈ X, x < 18446744073709551616)
    (hk : ∀ w' p' c' b n q l d, SlO StK w' p' (madeS on X).length c' (madeS on X) → (∀ b, bl p' b → w.heap.size ≤ b) → Fr (fun _ => False) w w' → k (.tuple #[.slice p' (madeS on X).length c', .agg #[.bool b, .int .u64 n, .slice q l d]]) w') :
    F4 k false 0 p X.length c ((on : Nat) : Int) w := by
  unfold F4
  refine new_intro fun n5 w1 e1 b1 f1 z1 => new_intro fun n6 w2 e2 b2 f2 z2 => new_intro fun n7 w3 e3 b3 f3 z3 => ?_
  refine store_intro (i := 0) (b2.fr f3 id) (by simp) rfl fun w4 b4 f4 z4 => store_intro (i := 1) b4 (by simp) rfl fun w5 b5 f5 z5 => store_intro (i := 2) b5 (by simp) rfl fun w6 b6 f6 z6 => ?_
  have f36 : Fr (fun b => b = n6) w3 w6 := (f4.trans f5 fun _ h => .inl h).trans f6 fun _ h => .inl h
  have b7 := b3.fr f36 (show ¬ n7 = n6 by omega)
  refine store_intro (i := 0) b7 (by simp) rfl fun w7 b7 f7 z7 => store_intro (i := 1) b7 (by simp) rfl fun w8 b7 f8 z8 => store_intro (i := 2) b7 (by simp) rfl fun w9 b7 f9 z9 => store_intro (i := 3) b7 (by simp) rfl fun w10 b7 f10 z10 => store_intro (i := 4) b7 (by simp) rfl fun w11 b7 f11 z11 => store_intro (i := 5) b7 (by simp) rfl fun w12 b7 f12 z12 => ?_
  have f612 : Fr (fun b => b = n7) w6 w12 := ((((f7.trans f8 fun _ h => .inl h).trans f9 fun _ h => .inl h).trans f10 fun _ h => .inl h).trans f11 fun _ h => .inl h).trans f12 fun _ h => .inl h
  have b6 := b6.fr f612 (show ¬ n6 = n7 by omega)
  have b15 := (((b1.fr f2 id).fr f3 id).fr f36 (show ¬ n5 = n6 by omega)).fr f612 (show ¬ n5 = n7 by omega)
  have f012 : Fr (fun _ => False) w w12 := ((((f1.trans f2 fun _ h => h.elim).trans f3 fun _ h => h.elim).mono (S' := fun b => b = n6 ∨ b = n7) fun _ h => h.elim).trans f36 fun b hb => .inl (.inl hb)).trans f612 (fun b hb => .inl (.inr hb)) |>.mono fun b hb => .inr (by omega)
  rw [BIf_false]
  unfold F4_J1
  simp only [add_mk, Nat.zero_add]
  have hb7 : Blk w12 n7 31 [.int .i64 2, .int .i64 0, .int .i64 0, .int .u64 0, .int .i64 0, .bool false] := b7
  refine load_int (i := 0) hb7 rfl (load_int (i := 1) hb7 rfl (load_int (i := 2) hb7 rfl (load_int (i := 3) hb7 rfl (load_int (i := 4) hb7 rfl (load_bool (i := 5) hb7 rfl ?_)))))
  obtain ⟨i31, g1, g2, g3, g4⟩ := inf31
  refine build_intro und23 g1 g2 (by omega) (by omega) (fill31 _ _ _ _ _ _ i31 g3) fun w13 f13 b13 z13 => ?_
  have hz12 := f012.size
  have O13 : SlO StK w13 (some ⟨w12.heap.size, 0, none⟩) 1 1 (madeS on []) := SlO.made (K := StK) b13 rfl (by decide) rfl (Rows.one (K := StK) (x := ⟨2, 0, 0, 0⟩) ⟨rfl, rfl, rfl, rfl, rfl, rfl⟩)
  have f013 := f012.trans f13 fun _ h => h.elim
  refine F4_L1_rule (I := fun dn bp' bl'' bc' on' a5 a6 sp sl sc i w' => dn = false ∧ bp' = p ∧ bl'' = X.length ∧ bc' = c ∧ on' = ((on : Nat) : Int) ∧ a5 = ⟨n5, 0, none⟩ ∧ a6 = ⟨n6, 0, none⟩ ∧ ∃ (t : Nat) (Y : List Nat) (q : Option Addr) (ql qc : Nat) (n : Int) (b : Bool), i = ((t : Nat) : Int) ∧ t ≤ X.length ∧ SlO StK w' sp sl sc (madeS on (X.take t)) ∧ (∀ b, bl sp b → w.heap.size ≤ b) ∧
      Blk w' n6 26 [.bool b, .int .u64 n, .slice q ql qc] ∧ Own w' 24 q ql qc (us Y) ∧ ql ≤ t ∧ Blk w' n5 26 [.bool false, .int .u64 0, .slice none 0 0] ∧ Fr (fun _ => False) w w')
    (μ := fun dn bp' bl'' bc' on' a5 a6 sp sl sc i w' => X.length - i.toNat) ?_ ⟨rfl, rfl, rfl, rfl, rfl, rfl, rfl, 0, [], none, 0, 0, 0, false, rfl, Nat.zero_le _, O13, fun b hb => by rw [bl_q.1 hb]; exact hz12, b6.fr f13 id, Own.nil _ _, Nat.le_refl _, b15.fr f13 id, f013⟩
  rintro _ bp' bl'' bc' on' _ _ sp sl sc i w14 ⟨rfl, x0, x1, x2, x3, rfl, rfl, t, Y, q, ql, qc, nn, bb, rfl, ht, O14, hsp, B6, OY, hql, B5, f14⟩
  obtain rfl := x0.symm
  obtain rfl := x2.symm
  obtain rfl := x3.symm
  unfold F4_L1
  rw [x1]
  have hsl := O14.len
  have hml : (madeS on (X.take t)).length = t + 1 := by simp [madeS]; omega
  by_cases hlt : t < X.length
  · rw [decide_eq_true (show ((t : Nat) : Int) < ((X.length : Nat) : Int) by omega), BIf_true, decide_eq_true (show ((t : Nat) : Int) < 40 by omega), BIf_true]
    have hx : X[t]? = some X[t] := List.getElem?_eq_getElem hlt
    generalize X[t] = x at hx
    obtain ⟨a, rfl, ha⟩ := (hX.fr0 f14) t x hx
    have hxb := hb x (List.mem_of_getElem? hx)
    rw [NN_mk, Req_iff, Int.toNat_natCast]
    refine ⟨by omega, LoadT_int.2 ⟨_, ha, ⟨by omega, bind_intro ?_⟩⟩⟩
    rw [BIf_false, remI_eq (by omega), show ((x : Nat) : Int) % 1152921504606846976 = ((x % 1152921504606846976 : Nat) : Int) by omega]
    unfold F4_J2
    refine build_intro und23 g1 g2 (by omega) (by omega) (fill31 _ _ _ _ _ _ i31 g3) fun w15 f15 b15 z15 => ?_
    have hz14 := f14.size
    refine SlO.append (K := StK) und23 g1 g2 g3 (by decide) rfl g4 (by decide) (O14.fr0 f15) b15 (ys := [setS on x]) (Rows.one (K := StK) ⟨rfl, rfl, rfl, rfl, rfl, rfl⟩) rfl rfl (fun u hu => ?_) (by omega) fun sp' sc' w16 f16 O16 hp16 => ?_
    · simp only [List.mem_cons, List.not_mem_nil, or_false] at hu
      rcases hu with rfl | rfl | rfl | rfl | rfl | rfl <;> rfl
    have T16 := (O14.fr0 f15).ty
    have blk16 : ∀ {b u : Nat} {vs : List Value}, Blk w15 b u vs → u ≠ 31 → Blk w16 b u vs := fun h hu => h.fr f16 fun hb => by
      have := T16 _ _ _ hb h
      simp [StK] at this; exact hu this
    have B6' := blk16 (B6.fr f15 id) (by decide)
    have B5' := blk16 (B5.fr f15 id) (by decide)
    have OY' := (OY.fr f15 fun _ _ => id).fr f16 fun b hb hx => by
      obtain ⟨us', hu⟩ := (OY.fr f15 fun _ _ => id).blk hb
      have := T16 _ _ _ hx hu
      simp [StK] at this
    simp only [add_mk, Nat.zero_add]
    refine load_slice (i := 2) B6' rfl ?_
    refine F8_call (F8_spec OY' (by omega) fun w17 q' ql' qc' Y' OY7 hql' f17 => back_slice ?_)
    refine store_intro (i := 2) (B6'.fr f17 id) (by simp) rfl fun w18 b18 f18 z18 => ?_
    rw [addI_i64 (by omega) (by omega)]
    have hn6 : ∀ b, bl q' b → b ≠ n6 := fun b hb e => by
      obtain ⟨us', hu⟩ := OY7.blk hb
      rw [e] at hu
      exact absurd (hu.unique (B6'.fr f17 id)).1 (by decide)
    have f017 : Fr (fun _ => False) w w17 := ((f14.trans f15 fun _ h => h.elim).trans f16 fun b hb => .inr (hsp b hb)).trans f17 fun _ h => h.elim
    have T18 := Tys.one (B6'.fr f17 id)
    refine ⟨⟨by trivial, by trivial, by trivial, by trivial, by trivial, by trivial, by trivial, t + 1, Y', q', ql', qc', nn, bb, by omega, hlt, ?_, fun b hb => ?_, b18, OY7.fr f18 fun b hb e => hn6 b hb e, by omega, (B5'.fr f17 id).fr f18 (show ¬ n5 = n6 by omega), f017.trans f18 fun b hb => .inr (by have hb : b = n6 := hb; omega)⟩, ?_⟩
    · have : madeS on (X.take (t + 1)) = madeS on (X.take t) ++ [setS on x] := by
        unfold madeS
        rw [List.take_add_one, hx]; simp
      rw [this]
      exact ((O16.fr0 f17).fr f18 T18 (by decide))
    · rcases hp16 b hb with h | h
      · exact hsp b h
      · omega
    · show X.length - (((t : Nat) : Int) + 1).toNat < X.length - ((t : Nat) : Int).toNat
      omega
  · rw [decide_eq_false (show ¬ ((t : Nat) : Int) < ((X.length : Nat) : Int) by omega), BIf_false]
    have : t = X.length := by omega
    subst this
    rw [List.take_length] at O14 hml hsl
    unfold F4_J3
    refine drw_intro fun w15 f15 z15 => ?_
    have B6' := B6.fr f15 id
    have B5' := B5.fr f15 id
    simp only [add_mk, Nat.zero_add]
    refine load_bool (i := 0) B6' rfl (load_int (i := 1) B6' rfl (load_slice (i := 2) B6' rfl ?_))
    refine store_intro (i := 0) B5' (by simp) rfl fun w16 b16 f16 z16 => store_intro (i := 1) b16 (by simp) rfl fun w17 b17 f17 z17 => store_intro (i := 2) b17 (by simp) rfl fun w18 b18 f18 z18 => ?_
    refine load_bool (i := 0) b18 rfl (load_int (i := 1) b18 rfl (load_slice (i := 2) b18 rfl ?_))
    have f58 : Fr (fun b => b = n5) w15 w18 := (f16.trans f17 fun _ h => .inl h).trans f18 fun _ h => .inl h
    rw [hsl]
    rw [hsl] at O14
    exact hk w18 sp sc _ _ _ _ _ ((O14.fr0 f15).fr f58 (Tys.one B5') (by decide)) hsp ((f14.trans f15 fun _ h => h.elim).trans f58 fun b hb => .inr (by have hb : b = n5 := hb; omega))
end
end Go.Proofs.Ytooejhmelodiaaa.E
