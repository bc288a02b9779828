/-
  A script run on a queue; the keys that come out.
-/
import Derived.Test.YtbbidbjefdaagaaDoorPq5
namespace Go.Proofs.YtbbidbjefdaagaaDoor.E
open Go Go.Sort
set_option linter.unusedSimpArgs false
set_option linter.unusedVariables false
set_option maxRecDepth 100000
set_option maxHeartbeats 4000000

/-- What a script's steps tell, and what is left. -/
inductive Run (dup : Bool) : List Stp → List (List It2) → List It2 → Prop
  | nil : Run dup [] [] []
  | put {ss : List Stp} {os : List (List It2)} {C C' : List It2} {n : Nat} {xs : List It2} : Run dup ss os C → C'.Perm (addAll dup C xs) → Run dup (ss ++ [(1, n, xs)]) (os ++ [[]]) C'
  | get {ss : List Stp} {os : List (List It2)} {C D : List It2} {n : Nat} {xs ys : List It2} : Run dup ss os C → Got C ys D → ys.length = min n C.length → Run dup (ss ++ [(2, n, xs)]) (os ++ [ys]) D
theorem Run.len {dup : Bool} {ss : List Stp} {os : List (List It2)} {C : List It2} (h : Run dup ss os C) : os.length = ss.length := by
  induction h with
  | nil => rfl
  | put _ _ ih => simp [ih]
  | get _ _ _ ih => simp [ih]
theorem Run.size {dup : Bool} {ss : List Stp} {os : List (List It2)} {C : List It2} (h : Run dup ss os C) (hs : ∀ s ∈ ss, s.2.2.length ≤ 100) : C.length ≤ 100 * ss.length := by
  induction h with
  | nil => simp
  | put h1 h2 ih =>
    have h3 := ih fun s hs' => hs s (List.mem_append_left _ hs')
    have h4 := hs _ (List.mem_append_right _ (List.mem_singleton.2 rfl))
    simp only at h4
    have h5 := h2.length_eq
    have h6 := addAll_len dup ‹List It2› ‹List It2›
    simp only [List.length_append, List.length_singleton]
    rename_i ss os C C' n xs
    have h6 := addAll_len dup xs C
    omega
  | get h1 h2 h3 ih =>
    have h4 := ih fun s hs' => hs s (List.mem_append_left _ hs')
    have h5 := h2.1.length_eq
    simp only [List.length_append, List.length_singleton] at h5 ⊢
    omega
theorem Run.quiet {dup : Bool} {ss : List Stp} {os : List (List It2)} {C : List It2} (h : Run dup ss os C) : ∀ (i : Nat) s ys, ss[i]? = some s → os[i]? = some ys → ys ≠ [] → s.1 = 2 := by
  induction h with
  | nil => intro i s ys h; cases h
  | @put ss os C C' n xs h1 h2 ih =>
    intro i s ys hs ho hy
    have hl := h1.len
    by_cases hi : i < ss.length
    · rw [List.getElem?_append_left hi] at hs
      rw [List.getElem?_append_left (by omega)] at ho
      exact ih i s ys hs ho hy
    · rw [List.getElem?_append_right (by omega)] at ho
      have : i - os.length = 0 := by have := (List.getElem?_eq_some_iff.1 ho).1; simp only [List.length_singleton] at this; omega
      rw [this] at ho
      simp only [List.getElem?_cons_zero, Option.some.injEq] at ho
      exact absurd ho.symm hy
  | @get ss os C D n xs ys' h1 h2 h3 ih =>
    intro i s ys hs ho hy
    have hl := h1.len
    by_cases hi : i < ss.length
    · rw [List.getElem?_append_left hi] at hs
      rw [List.getElem?_append_left (by omega)] at ho
      exact ih i s ys hs ho hy
    · rw [List.getElem?_append_right (by omega)] at hs
      have : i - ss.length = 0 := by have := (List.getElem?_eq_some_iff.1 hs).1; simp only [List.length_singleton] at this; omega
      rw [this] at hs
      simp only [List.getElem?_cons_zero, Option.some.injEq] at hs
      subst hs; rfl
/-- A script that this proof speaks of: it puts and takes, and takes only where there is something. -/
def Fine (dup : Bool) (ss : List Stp) : Prop :=
  (∀ s ∈ ss, s.2.2.length ≤ 100 ∧ (s.1 = 1 ∨ s.1 = 2 ∧ 0 < s.2.1 ∧ s.2.1 < 100000)) ∧ (∀ (i n : Nat) xs, ss[i]? = some (2, n, xs) → ∀ os C, Run dup (ss.take i) os C → 0 < C.length)

/-! ## What is told -/
abbrev Rec := Option Addr × Nat × Nat
def rc (r : Rec) : List Value := [.slice r.1 r.2.1 r.2.2, .int .i64 0, .bool false, .int .i64 0]
def rflat : List Rec → List Value
  | [] => []
  | r :: l => rc r ++ rflat l
theorem rflat_append : ∀ l m : List Rec, rflat (l ++ m) = rflat l ++ rflat m
  | [], _ => rfl
  | r :: l, m => by simp [rflat, rflat_append l m, rc]
theorem rflat_length : ∀ l : List Rec, (rflat l).length = l.length * 4
  | [] => rfl
  | r :: l => by simp [rflat, rc, rflat_length l]; omega
theorem rflat_one : ∀ (l : List Rec), ∀ u ∈ rflat l, u.oneCell' = true
  | [], u, h => by cases h
  | r :: l, u, h => by
    simp only [rflat, rc, List.mem_append, List.mem_cons, List.not_mem_nil, or_false] at h
    rcases h with (rfl | rfl | rfl | rfl) | h
    · rfl
    · rfl
    · rfl
    · rfl
    · exact rflat_one l u h
theorem rflat_get : ∀ (l : List Rec) (i : Nat) (r : Rec), l[i]? = some r → (rflat l)[i * 4]? = some (.slice r.1 r.2.1 r.2.2) ∧ (rflat l)[i * 4 + 1]? = some (.int .i64 0) ∧ (rflat l)[i * 4 + 2]? = some (.bool false) ∧ (rflat l)[i * 4 + 3]? = some (.int .i64 0)
  | [], _, _, h => by cases h
  | x :: l, 0, r, h => by simp at h; subst h; exact ⟨rfl, rfl, rfl, rfl⟩
  | x :: l, i + 1, r, h => by
    have := rflat_get l i r (by simpa using h)
    rw [show (i + 1) * 4 = i * 4 + 1 + 1 + 1 + 1 by omega]
    simpa [rflat, rc] using this
theorem fill46 (r : Rec) : ∀ i : TypeInfo, i.size = 4 → Instr.fill (fun j => some (j * i.size, i.size)) ((Array.range (1 * i.size)).map (z46.cells[· % z46.cells.size]!)) [(0, .agg #[.slice r.1 r.2.1 r.2.2, .int .i64 0, .bool false, .int .i64 0])] = some (rflat [r]).toArray := by
  intro i h
  rw [h]
  kernel_rfl
def OutsOk (w : World) (rs : List Rec) (os : List (List It2)) : Prop := rs.length = os.length ∧ ∀ (j : Nat) r ys, rs[j]? = some r → os[j]? = some ys → OwnN w 28 2 r.1 r.2.1 r.2.2 (flat ys)
theorem OutsOk.fr {T : Nat → Prop} {w w' : World} {rs : List Rec} {os : List (List It2)} (h : OutsOk w rs os) (f : Fr T w w') (hT : ∀ b, T b → ∀ us, ¬ Blk w b 28 us) : OutsOk w' rs os :=
  ⟨h.1, fun j r ys hr ho => (h.2 j r ys hr ho).fr f fun b hb ht => by
    obtain ⟨us, hu⟩ := (h.2 j r ys hr ho).blk hb
    exact hT b ht us hu⟩
theorem OutsOk.fr0 {w w' : World} {rs : List Rec} {os : List (List It2)} (h : OutsOk w rs os) (f : Fr (fun _ => False) w w') : OutsOk w' rs os := h.fr f fun _ h => h.elim
theorem OutsOk.snoc {w : World} {rs : List Rec} {os : List (List It2)} {r : Rec} {ys : List It2} (h : OutsOk w rs os) (hr : OwnN w 28 2 r.1 r.2.1 r.2.2 (flat ys)) : OutsOk w (rs ++ [r]) (os ++ [ys]) := by
  refine ⟨by simp [h.1], fun j r' ys' h1 h2 => ?_⟩
  have hl := h.1
  by_cases hj : j < rs.length
  · rw [List.getElem?_append_left hj] at h1
    rw [List.getElem?_append_left (by omega)] at h2
    exact h.2 j r' ys' h1 h2
  · rw [List.getElem?_append_right (by omega)] at h1 h2
    have : j - rs.length = 0 := by have := (List.getElem?_eq_some_iff.1 h1).1; simp only [List.length_singleton] at this; omega
    rw [← hl] at h2
    rw [this] at h1 h2
    simp only [List.getElem?_cons_zero, Option.some.injEq] at h1 h2
    subst h1; subst h2; exact hr
theorem PQ.no28 {w : World} {qb mb q l c : Nat} {dup : Bool} {f : Nat → It2} {ks : List It2} (h : PQ w qb mb q l c dup f ks) {b : Nat} (hb : b = qb ∨ b = mb ∨ b = q) {us : List Value} {t : TypeId} (ht : t ≠ 70) (ht' : t ≠ 81) : ¬ Blk w b t us := fun hu => by
  rcases hb with rfl | rfl | rfl
  · exact ht (hu.unique h.head).1
  · exact h.map.not_blk hu rfl
  · obtain ⟨us, hu'⟩ := h.own.blk
    exact ht' (hu.unique hu').1
theorem es_get {es : List Ent} {i : Nat} {e : Ent} (h : es[i]? = some e) : (es.map Ent.st)[i]? = some (e.op, e.n, e.xs) := by rw [List.getElem?_map, h]; rfl
def RunI (w : World) (qb mb : Nat) (dup : Bool) (es : List Ent) (op : Option Addr) (i oc : Nat) (w' : World) : Prop :=
  ∃ (rs : List Rec) (os : List (List It2)) (q lq cq : Nat) (g : Nat → It2) (ks : List It2), PQ w' qb mb q lq cq dup g ks ∧ w.heap.size ≤ q ∧ Run dup ((es.take i).map Ent.st) os (seg g 0 lq) ∧ OutsOk w' rs os ∧ OwnN w' 46 4 op i oc (rflat rs) ∧ (∀ b, bl op b → w.heap.size ≤ b) ∧ Fr (fun _ => False) w w'
/-- PQRun. -/
theorem F16_spec {k : Value → W} {w : World} {dup : Bool} {p : Option Addr} {l c : Nat} {es : List Ent} (hS : StepsAt w p l c es) (hlen : es.length ≤ 200) (hF : Fine dup (es.map Ent.st))
    (hk : ∀ rs os C p' c' w', Run dup (es.map Ent.st) os C → OutsOk w' rs os → OwnN w' 46 4 p' es.length c' (rflat rs) → Fr (fun _ => False) w w' → k (.slice p' es.length c') w') : F16 k 0 dup p l c w := by
  have hl := hS.len
  subst hl
  unfold F16
  refine F19_call (F19_spec (n := 0) (by omega) fun qb mb q0 c0 w1 Q1 hlo f1 => back_ptr ?_)
  have h0s := f1.size
  refine F16_L1_rule (fun qp op ol oc sp sl sc x8 x9 w' => qp = some ⟨qb, 0, none⟩ ∧ sp = p ∧ sl = es.length ∧ x8 = (es.length : Nat) ∧ ∃ i : Nat, x9 = i ∧ i ≤ es.length ∧ ol = i ∧ RunI w qb mb dup es op i oc w')
    (fun _ _ _ _ _ _ _ x8 x9 _ => (x8 - x9).toNat) ?_ ⟨rfl, rfl, rfl, rfl, 0, rfl, Nat.zero_le _, rfl, [], [], q0, 0, c0, f00, [], Q1, hlo _ (.inr (.inr rfl)), Run.nil, ⟨rfl, fun j r ys h => (by cases h)⟩, OwnN.nil _ _ _, fun b ⟨a, h, _⟩ => (by cases h), f1⟩
  rintro qp op ol oc sp sl sc x8 x9 w2 ⟨rfl, e2, e3, rfl, i, rfl, hi, e5, rs, os, q, lq, cq, g, ks, Q2, hq2, R2, O2, o2, hp2, f2⟩
  obtain rfl := e2.symm; obtain rfl := e3.symm; obtain rfl := e5.symm
  unfold F16_L1
  by_cases hil : i < es.length
  rotate_left
  · have : i = es.length := by omega
    subst this
    rw [decide_eq_false (by omega)]
    rw [List.take_length] at R2
    simp only [BIf_false]
    exact hk rs os _ op oc w2 R2 O2 o2 f2
  rw [decide_eq_true (by omega)]
  have hget : es[i]? = some (es[i]'(by omega)) := List.getElem?_eq_getElem _
  generalize es[i]'(by omega) = e at hget
  have hmem : e ∈ es := List.mem_of_getElem? hget
  obtain ⟨sq, srest, rfl, _⟩ := hS.own.get (by omega)
  have o2s := hS.own.fr f2 fun _ _ h => h
  obtain ⟨d1, d2, d3⟩ := sflat_get es i e hget
  simp only [BIf_true, NN_mk, Int.toNat_natCast, add_mk, Nat.zero_add, Nat.add_zero]
  refine ⟨by omega, LoadT_int.2 ⟨_, by rw [o2s.cell (by omega)]; exact d1, LoadT_int.2 ⟨_, by rw [o2s.cell (by omega)]; exact d2, LoadT_slice.2 ⟨_, _, _, by rw [o2s.cell (by omega)]; exact d3, ?_⟩⟩⟩⟩
  refine new_intro fun n w3 e3 b3 f3 z3 => ?_
  refine store_intro b3 (by simp) rfl fun w4 b4 f4 z4 => ?_
  refine store_intro b4 (by simp) rfl fun w5 b5 f5 z5 => ?_
  refine store_intro b5 (by simp) rfl fun w6 b6 f6 z6 => ?_
  refine load_int (i := 0) b6 rfl (load_int (i := 1) b6 rfl (load_slice (i := 2) b6 rfl ?_))
  have f26 : Fr (fun _ => False) w2 w6 := ((f3.trans f4 fun b e => .inr (by have : b = n := e; omega)).trans f5 fun b e => .inr (by have : b = n := e; omega)).trans f6 fun b e => .inr (by have : b = n := e; omega)
  have f06 := f2.trans f26 fun _ h => h.elim
  have Q6 := Q2.fr0 f26
  have hstm : e.st ∈ es.map Ent.st := List.mem_map.2 ⟨e, hmem, rfl⟩
  obtain ⟨hlx, hop⟩ := hF.1 _ hstm
  have hlq : lq ≤ 100 * i := by
    have h1 := R2.size fun s hs => (hF.1 s (by obtain ⟨a, ha, hb⟩ := List.mem_map.1 hs; exact List.mem_map.2 ⟨a, List.mem_of_mem_take ha, hb⟩)).1
    rw [seg_length, List.length_map, List.length_take, Nat.min_eq_left (by omega)] at h1
    exact h1
  have hz2 := f2.size
  have hz6 := f26.size
  -- what follows the step
  have fin : ∀ (r : Rec) (ys : List It2) (q' l' c' : Nat) (g' : Nat → It2) (ks' : List It2) (w7 : World) (K : Option Addr → Nat → Nat → W), PQ w7 qb mb q' l' c' dup g' ks' → w.heap.size ≤ q' → Run dup ((es.take i).map Ent.st ++ [e.st]) (os ++ [ys]) (seg g' 0 l') → OwnN w7 28 2 r.1 r.2.1 r.2.2 (flat ys) → Fr (fun b => b = qb ∨ b = mb ∨ b = q) w6 w7 →
      (∀ p9 c9 w9, RunI w qb mb dup es p9 (i + 1) c9 w9 → K p9 (i + 1) c9 w9) →
      RawT Go.Proofs.Tryd.prog (Instr.buildSlice 43 1 [(0, .agg #[.slice r.1 r.2.1 r.2.2, .int .i64 0, .bool false, .int .i64 0])].toArray) (.s (.one .slice)) (fun s23p s23l s23c =>
        NextT Go.Proofs.Tryd.prog (builtin .append #[43, 43] 43 [false, false].toArray [.slice op i oc, .slice s23p s23l s23c].toArray) (.s (.one .slice)) K) w7 := by
    intro r ys q' l' c' g' ks' w7 K Q7 hq7 R7 o7 f7 hK
    obtain ⟨ii, hi1, hi2, hi3, hi4⟩ := inf46
    refine build_intro und43 hi1 hi2 (by omega) (by omega) (fill46 r ii hi3) fun w8 f8 b8 z8 => ?_
    have O6 := O2.fr0 f26
    have O7 := O6.fr f7 fun b hb us => Q6.no28 hb (by decide) (by decide)
    have hopf : ∀ b, bl op b → ¬ (b = qb ∨ b = mb ∨ b = q) := fun b hb h => by
      obtain ⟨us, hu⟩ := (o2.fr f26 fun _ _ h => h).blk hb
      exact Q6.no28 h (by decide) (by decide) hu
    have o27 := (o2.fr f26 fun _ _ h => h).fr f7 hopf
    have o28 := o27.fr f8 fun _ _ h => h
    refine append_own (P := Tryd.prog) und43 hi1 hi2 hi3 (by decide) rfl hi4 o28 (news := rflat [r]) (m := 1) (rflat_length _) ?_ (rflat_one _) (by omega) fun p9 c9 w9 f9 o9 hp9 => ?_
    · intro j u hj
      rw [add_mk, Nat.zero_add, b8.cell]; exact hj
    rw [← rflat_append] at o9
    have Q8 := Q7.fr0 f8
    have hopb : ∀ b, bl op b → ∃ us, Blk w8 b 46 us := fun b hb => o28.blk hb
    have f07 : Fr (fun _ => False) w w7 := f06.trans f7 fun b h => .inr (by
      rcases h with h | h | h
      · have := hlo b (.inl h); omega
      · have := hlo b (.inr (.inl h)); omega
      · omega)
    refine hK p9 c9 w9 ⟨rs ++ [r], os ++ [ys], q', l', c', g', ks', ?_, hq7, ?_, ?_, o9, ?_, (f07.trans f8 fun _ h => h.elim).trans f9 fun b hb => .inr (hp2 b hb)⟩
    · exact Q8.fr f9 fun b hb h => by
        obtain ⟨us, hu⟩ := hopb b h
        exact Q8.no28 hb (by decide) (by decide) hu
    · rw [take_snoc hget, List.map_append]; exact R7
    · refine ((O7.snoc o7).fr0 f8).fr f9 fun b hb us hu => ?_
      obtain ⟨us', hu'⟩ := hopb b hb
      exact absurd (hu.unique hu').1 (by decide)
    · intro b hb
      rcases hp9 b hb with h | h
      · exact hp2 b h
      · have := f07.size; have := f8.size; omega
  obtain ⟨eop, en, eip, eic, exs⟩ := e
  simp only [Ent.st] at hop hlx
  rcases hop with hop | ⟨hop, hn0, hn1⟩
  · subst hop
    refine F20_call (F20_put Q6 ((hS.ok _ hmem).fr0 f06) (by simp only; omega) fun q' l' c' g' ks' w7 Q7 p7 hq7 f7 => back_said ?_)
    refine fin (none, 0, 0) [] q' l' c' g' ks' w7 _ Q7 (by rcases hq7 with h | h <;> omega) (.put R2 p7) (OwnN.nil _ _ _) f7 fun p9 c9 w9 h9 => ?_
    rw [add_one (by omega)]
    exact ⟨⟨(by trivial), (by trivial), (by trivial), (by trivial), i + 1, rfl, by omega, (by trivial), h9⟩, by omega⟩
  · subst hop
    have hne := hF.2 i en exs (es_get hget) os (seg g 0 lq) (by rw [← List.map_take]; exact R2)
    rw [seg_length] at hne
    refine F20_call (F20_get Q6 hne (by omega) hn0 hn1 fun ys p' c' l' g' ks' w7 Q7 got hyl o7 f7 => back_said ?_)
    refine fin (p', ys.length, c') ys q l' cq g' ks' w7 _ Q7 hq2 (.get R2 got (by rw [seg_length]; exact hyl)) o7 f7 fun p9 c9 w9 h9 => ?_
    rw [add_one (by omega)]
    exact ⟨⟨(by trivial), (by trivial), (by trivial), (by trivial), i + 1, rfl, by omega, (by trivial), h9⟩, by omega⟩
end Go.Proofs.YtbbidbjefdaagaaDoor.E
