/-
  The heap in memory: compared, exchanged, put in, taken out.
-/
import Derived.Test.YtbbidbjefdaagaaDoorPq0
namespace Go.Proofs.YtbbidbjefdaagaaDoor.E
open Go
set_option linter.unusedSimpArgs false
set_option linter.unusedVariables false
set_option maxRecDepth 100000
set_option maxHeartbeats 2000000

theorem NextT_enter {P : Program} {s : Sem Next} {r : RTy} {f : Fn W r.leaves} {g : FuncId} {args : Array Value} {w w' : World} (h : s.run P w = .ok (.enter g args) w') (hk : Calls P g args w' (Back r f)) : NextT P s r f w := by
  unfold NextT; rw [h]; exact hk
theorem meth (a b : It2) (w : World) : (callMethod (enc a) "Compare" [enc b].toArray).run Tryd.prog w = .ok (.enter 67 #[.agg #[.int .i64 a.1, .int .i64 a.2], enc b]) w := by kernel_rfl
theorem F68_spec {k : Value → W} {w : World} {a b : Int} (hk : ∀ r : Int, (r ≤ 0 ↔ a ≤ b) → (r < 0 ↔ a < b) → k (.int .i64 r) w) : F68 k a b w := by
  unfold F68
  refine BIf_intro (fun h => ?_) fun h => BIf_intro (fun h' => ?_) fun h' => ?_
  · have h := of_decide_eq_true h; exact hk _ (by constructor <;> intro <;> omega) (by constructor <;> intro <;> omega)
  · have h' := of_decide_eq_true h'; exact hk _ (by constructor <;> intro <;> omega) (by constructor <;> intro <;> omega)
  · have h := of_decide_eq_false h; have h' := of_decide_eq_false h'; exact hk _ (by constructor <;> intro <;> omega) (by constructor <;> intro <;> omega)
theorem cmp_intro {a b : It2} {f : Int → W} {w : World} (hk : ∀ r w', (r ≤ 0 ↔ key a ≤ key b) → (r < 0 ↔ key a < key b) → Fr (fun _ => False) w w' → f r w') : NextT Tryd.prog (callMethod (enc a) "Compare" [enc b].toArray) (.s (.one (.int .i64))) f w := by
  refine NextT_enter (meth a b w) ?_
  refine F67_calls ?_
  unfold F67
  refine new_intro fun n w1 e1 b1 f1 z1 => ?_
  refine drw_intro fun w2 f2 z2 => ?_
  refine load_int (b1.fr f2 id) rfl ?_
  refine ⟨(b.1, b.2, ()), rfl, ?_⟩
  refine F68_call (F68_spec fun r hr hr' => back_int (back_int ?_))
  exact hk r w2 hr hr' (f1.trans f2 fun _ h => h.elim)

/-- The row at q holds the elements f. -/
def AR (w : World) (q c n : Nat) (f : Nat → It2) : Prop := Own w 81 (some ⟨q, 0, none⟩) n c (encs (seg f 0 n))
theorem AR.cell {w : World} {q c n : Nat} {f : Nat → It2} (h : AR w q c n f) {i : Nat} (hi : i < n) : w.cell? ⟨q, i, none⟩ = some (enc (f i)) := by
  rw [Own.cell h hi, encs_get, seg_get f n 0 i hi, Nat.zero_add]; rfl
theorem AR.frozen {w : World} {q c n : Nat} {f : Nat → It2} (h : AR w q c n f) (i : Nat) : w.frozen? ⟨q, i, none⟩ = false := Own.frozen h i
theorem AR.fr0 {w w' : World} {q c n : Nat} {f : Nat → It2} (h : AR w q c n f) (g : Fr (fun _ => False) w w') : AR w' q c n f := Own.fr h g fun _ _ h => h
theorem AR.set {w : World} {q c n : Nat} {f : Nat → It2} (h : AR w q c n f) {i : Nat} (hi : i < n) (x : It2) : AR (w.setCell ⟨q, i, none⟩ (enc x)) q c n (upd1 f i x) := by
  have := Own.set h hi (enc x)
  have e : (encs (seg f 0 n)).set i (enc x) = encs (seg (upd1 f i x) 0 n) := by
    unfold encs
    rw [← List.map_set, seg_set f x n 0 i hi, Nat.zero_add]
  rw [e] at this; exact this
theorem AR.blk {w : World} {q c n : Nat} {f : Nat → It2} (h : AR w q c n f) : ∃ us, Blk w q 81 us := Own.blk h ⟨_, rfl, rfl⟩
theorem upd_swp (f : Nat → It2) (i j : Nat) : upd1 (upd1 f i (f j)) j (f i) = swp f i j := by
  funext x
  unfold upd1 swp
  by_cases h1 : x = j
  · subst h1
    by_cases h2 : x = i
    · subst h2; simp
    · simp [h2]
  · simp [h1]

theorem F50_spec {k : Value → W} {w : World} {qb q c n : Nat} {f : Nat → It2} {i j : Nat} {rs : List Value} (hH : Blk w qb 70 (.slice (some ⟨q, 0, none⟩) n c :: rs)) (h : AR w q c n f) (hi : i < n) (hj : j < n)
    (hk : ∀ w', AR w' q c n (swp f i j) → Fr (fun x => x = q) w w' → k (.tuple #[]) w') : F50 k (some ⟨qb, 0, none⟩) (i : Nat) (j : Nat) w := by
  unfold F50
  refine drw_intro fun w1 f1 z1 => ?_
  have H1 := hH.fr f1 id
  have h1 := h.fr0 f1
  simp only [NN_mk]
  refine load_slice H1 rfl (load_slice H1 rfl (load_slice H1 rfl ?_))
  simp only [NN_mk, Req_iff, LoadT_any, Int.toNat_natCast, add_mk, Nat.zero_add]
  refine ⟨by omega, _, h1.cell hj, ?_⟩
  refine load_slice H1 rfl ?_
  simp only [NN_mk, Req_iff, LoadT_any, Int.toNat_natCast, add_mk, Nat.zero_add]
  refine ⟨by omega, _, h1.cell hi, by omega, rfl, Store1_iff.2 ⟨rfl, ⟨_, h1.cell hi⟩, h1.frozen _, ?_⟩⟩
  have f2 : Fr (fun b => b = q) w1 (w1.setCell ⟨q, i, none⟩ (enc (f j))) := Fr.setCell _ _ _ rfl
  have h2 := h1.set hi (f j)
  generalize w1.setCell ⟨q, i, none⟩ (enc (f j)) = w2 at *
  refine ⟨by omega, rfl, Store1_iff.2 ⟨rfl, ⟨_, h2.cell hj⟩, h2.frozen _, ?_⟩⟩
  have f3 : Fr (fun b => b = q) w2 (w2.setCell ⟨q, j, none⟩ (enc (f i))) := Fr.setCell _ _ _ rfl
  have h3 := h2.set hj (f i)
  generalize w2.setCell ⟨q, j, none⟩ (enc (f i)) = w3 at *
  rw [upd_swp] at h3
  exact hk w3 h3 (((f1.mono fun _ h => h.elim).trans f2 fun _ h => .inl h).trans f3 fun _ h => .inl h)

theorem par_le (i : Nat) : par i ≤ i := by unfold par; omega
theorem quo_par {t : Nat} (h : t < 1000000) : quoI .i64 (subI .i64 (t : Nat) 1) 2 = ((par t : Nat) : Int) := by
  rw [subI_i64 (by omega) (by omega)]
  by_cases h0 : t = 0
  · subst h0; rfl
  · rw [quoI_i64 (by omega) (by omega) (by omega)]; unfold par; omega
/-- An element put in. -/
theorem F46_spec {k : Value → W} {w : World} {qb l c : Nat} {p : Option Addr} {f : Nat → It2} {x : It2} {rs : List Value} (hH : Blk w qb 70 (.slice p l c :: rs)) (hO : Own w 81 p l c (encs (seg f 0 l))) (hh : HeapOn f l) (hl : l < 100000)
    (hk : ∀ p' c' g w', Blk w' qb 70 (.slice p' (l + 1) c' :: rs) → Own w' 81 p' (l + 1) c' (encs (seg g 0 (l + 1))) → HeapOn g (l + 1) → (seg g 0 (l + 1)).Perm (seg f 0 l ++ [x]) → (∀ b, bl p' b → bl p b ∨ w.heap.size ≤ b) → Fr (fun b => b = qb ∨ bl p b) w w' → k (.tuple #[]) w') : F46 k (some ⟨qb, 0, none⟩) (enc x) w := by
  unfold F46
  simp only [NN_mk]
  refine load_slice hH rfl ?_
  obtain ⟨i81, a1, a2, a3, a4⟩ := inf81
  refine append1 (P := Tryd.prog) und67 a1 a2 a3 rfl (by omega) hO rfl rfl (by omega) fun p1 c1 w1 f1 o1 hp1 hs1 => ?_
  have hne : ¬ bl p qb := fun h => by
    obtain ⟨us, hu⟩ := hO.blk h
    exact absurd (hu.unique hH).1 (by decide)
  have H1 := hH.fr f1 hne
  refine store_intro H1 (by simp) rfl fun w2 H2 f2 z2 => ?_
  simp only [List.set_cons_zero] at H2
  have hne1 : ¬ bl p1 qb := fun h => by
    obtain ⟨us, hu⟩ := o1.blk h
    exact absurd (hu.unique H1).1 (by decide)
  have o2 := o1.fr f2 fun b hb e => hne1 (by have : b = qb := e; exact this ▸ hb)
  refine load_slice H2 rfl ?_
  have e1 : subI .i64 ((l + 1 : Nat) : Int) 1 = (l : Nat) := by rw [subI_i64 (by omega) (by omega)]; omega
  rw [e1]
  refine bind_intro ⟨by decide, bind_intro ?_⟩
  rw [quo_par (by omega)]
  obtain ⟨q, rest, rfl, _⟩ := o2.get (by omega)
  have f02 : Fr (fun b => b = qb ∨ bl p b) w w2 := (f1.mono fun _ h => .inl (.inr h)).trans f2 fun b h => .inl (.inl h)
  have hg : encs (seg (upd1 f l x) 0 (l + 1)) = encs (seg f 0 l) ++ [enc x] := by
    rw [seg_snoc, encs_append]
    congr 1
    · rw [seg_congr (f := upd1 f l x) (g := f) l 0 0 fun y hy => by unfold upd1; rw [if_neg (by omega)]]
    · unfold upd1; simp [encs]
  have hup : UpI (upd1 f l x) (l + 1) l := up_start hh fun i hi => by unfold upd1; rw [if_neg (by omega)]
  have hpm : (seg (upd1 f l x) 0 (l + 1)).Perm (seg f 0 l ++ [x]) := by
    rw [seg_snoc, seg_congr (f := upd1 f l x) (g := f) l 0 0 fun y hy => by unfold upd1; rw [if_neg (by omega)]]
    unfold upd1; simp
  rw [← hg] at o2
  have hq : ∀ b, b = q → bl p b ∨ w.heap.size ≤ b := fun b e => hp1 b ⟨_, rfl, e.symm⟩
  have hqb : q ≠ qb := fun e => hne1 ⟨_, rfl, e⟩
  refine F46_L1_rule (fun it v i pp w' => it = some ⟨qb, 0, none⟩ ∧ v = enc x ∧ ∃ (t : Nat) (g : Nat → It2), i = t ∧ pp = (par t : Nat) ∧ t < l + 1 ∧ g t = x ∧ Blk w' qb 70 (.slice (some ⟨q, 0, none⟩) (l + 1) c1 :: rs) ∧ AR w' q c1 (l + 1) g ∧ UpI g (l + 1) t ∧ (seg g 0 (l + 1)).Perm (seg f 0 l ++ [x]) ∧ Fr (fun b => b = qb ∨ bl p b) w w')
    (fun _ _ i _ _ => i.toNat) ?_ ⟨rfl, rfl, l, upd1 f l x, rfl, rfl, by omega, by simp [upd1], H2, o2, hup, hpm, f02⟩
  rintro it v i pp w3 ⟨rfl, rfl, t, g, rfl, rfl, ht, hgt, H3, h3, u3, p3, f3⟩
  unfold F46_L1
  rw [decide_eq_true (by omega)]
  simp only [BIf_true, NN_mk]
  refine load_slice H3 rfl ?_
  have hpl := par_le t
  simp only [NN_mk, Req_iff, LoadT_any, Int.toNat_natCast, add_mk, Nat.zero_add]
  refine ⟨by omega, _, h3.cell (by omega), cmp_intro fun r w4 hr hr' f4 => ?_⟩
  have H4 := H3.fr f4 id
  have h4 := h3.fr0 f4
  have f04 := f3.trans f4 fun _ h => h.elim
  by_cases hgt0 : r > 0
  · rw [decide_eq_true hgt0]
    simp only [BIf_true]
    have hlt : key (g t) < key (g (par t)) := by
      rw [hgt]
      have : ¬ key (g (par t)) ≤ key x := fun h => by have := hr.2 h; omega
      omega
    have ht0 : 0 < t := by
      rcases Nat.eq_zero_or_pos t with h | h
      · subst h; exact absurd hlt (by show ¬ key (g 0) < key (g 0); omega)
      · exact h
    refine F50_call (F50_spec H4 h4 ht (by omega) fun w5 h5 f5 => back0 ?_)
    have H5 := H4.fr f5 fun e => hqb e.symm
    refine ⟨by decide, ?_⟩
    rw [quo_par (by omega)]
    refine bind_intro ?_
    have hplt := par_lt ht0
    refine ⟨⟨(by trivial), (by trivial), par t, _, rfl, rfl, by omega, ?_, H5, h5, up_step u3 ht0 ht hlt, (swp_perm g ht (by omega)).trans p3, f04.trans f5 fun b e => ?_⟩, by omega⟩
    · rw [swp_at2 g (by omega)]; exact hgt
    · rcases hq b e with h | h
      · exact .inl (.inr h)
      · exact .inr h
  · rw [decide_eq_false hgt0]
    simp only [BIf_false]
    refine hk _ _ g w4 H4 h4 (up_done u3 (.inr (by rw [hgt]; exact hr.1 (by omega)))) p3 (fun b hb => ?_) f04
    obtain ⟨a, ha, hb⟩ := hb
    cases ha
    exact hq b hb.symm

theorem sliceA_zero (q m s : Nat) : sliceA (some ⟨q, 0, none⟩) 0 m s = some ⟨q, 0, none⟩ := by
  unfold sliceA; split
  · rfl
  · simp [Addr.add]
theorem own_take {w : World} {e : TypeId} {q n m c : Nat} {vs : List Value} (h : Own w e (some ⟨q, 0, none⟩) n c vs) (hm : m ≤ n) : Own w e (some ⟨q, 0, none⟩) m c (vs.take m) := by
  have h1 := h.1
  rcases h.2 with ⟨h, _⟩ | ⟨q', rest, h', hb, hc, hx⟩
  · cases h
  · cases h'
    refine ⟨by simp; omega, .inr ⟨q, vs.drop m ++ rest, rfl, ?_, ?_, hx⟩⟩
    · rw [← List.append_assoc, List.take_append_drop]; exact hb
    · rw [← List.append_assoc, List.take_append_drop]; exact hc
/-- The least one taken out. -/
theorem F51_spec {k : Value → W} {w : World} {qb m c q : Nat} {f : Nat → It2} {rs : List Value} (hH : Blk w qb 70 (.slice (some ⟨q, 0, none⟩) (m + 1) c :: rs)) (hO : AR w q c (m + 1) f) (hh : HeapOn f (m + 1)) (hl : m < 100000)
    (hk : ∀ g w', Blk w' qb 70 (.slice (some ⟨q, 0, none⟩) m c :: rs) → AR w' q c m g → HeapOn g m → (f 0 :: seg g 0 m).Perm (seg f 0 (m + 1)) → Fr (fun b => b = qb ∨ b = q) w w' → k (enc (f 0)) w') : F51 k (some ⟨qb, 0, none⟩) w := by
  have hqb : q ≠ qb := fun e => by
    obtain ⟨us, hu⟩ := hO.blk
    subst e
    exact absurd (hu.unique hH).1 (by decide)
  unfold F51
  simp only [NN_mk]
  refine load_slice hH rfl ?_
  have e1 : subI .i64 ((m + 1 : Nat) : Int) 1 = (m : Nat) := by rw [subI_i64 (by omega) (by omega)]; omega
  simp only [e1]
  refine F50_call (F50_spec (i := m) (j := 0) hH hO (by omega) (by omega) fun w1 h1 f1 => back0 ?_)
  have H1 := hH.fr f1 fun e => hqb e.symm
  refine load_slice H1 rfl ?_
  simp only [NN_mk, Req_iff, LoadT_any, Int.toNat_natCast, add_mk, Nat.zero_add]
  refine ⟨by omega, _, h1.cell (by omega), ?_⟩
  rw [swp_at1]
  refine drw_intro fun w2 f2 z2 => ?_
  have H2 := H1.fr f2 id
  have h2 := h1.fr0 f2
  refine load_slice H2 rfl (load_slice H2 rfl ?_)
  have hmc : m + 1 ≤ c := by
    rcases h2.2 with ⟨h, _⟩ | ⟨q', rest, h', hb, hc, hx⟩
    · cases h
    · rw [List.length_append, encs_length, seg_length] at hc; omega
  simp only [NN_mk, Req_iff, LoadT_any, Int.toNat_natCast, add_mk, Nat.zero_add]
  refine ⟨by omega, by omega, Store1_iff.2 ⟨rfl, ⟨_, h2.cell (by omega)⟩, h2.frozen _, ?_⟩⟩
  have f3 : Fr (fun b => b = q) w2 (w2.setCell ⟨q, m, none⟩ .nilIface) := Fr.setCell _ _ _ rfl
  have o3 := own_take (Own.set h2 (i := m) (by omega) .nilIface) (m := m) (by omega)
  have H3 := H2.set_ne (a := ⟨q, m, none⟩) .nilIface fun e => hqb e.symm
  generalize w2.setCell ⟨q, m, none⟩ .nilIface = w3 at *
  rw [seg_snoc, encs_append, List.set_append_right _ _ (by simp [seg_length]), List.take_append_of_le_length (by simp [seg_length]), List.take_of_length_le (by simp [seg_length])] at o3
  refine store_intro H3 (by simp) rfl fun w4 H4 f4 z4 => ?_
  simp only [List.set_cons_zero, sliceA_zero, Nat.sub_zero] at H4
  have o4 : AR w4 q c m (swp f m 0) := o3.fr f4 fun b hb e => by
    obtain ⟨a, ha, hb⟩ := hb
    cases ha
    have : b = qb := e
    exact hqb (hb.trans this)
  have f04 : Fr (fun b => b = qb ∨ b = q) w w4 := (((f1.mono (S' := fun b => b = qb ∨ b = q) fun _ h => .inl (.inr h)).trans f2 fun _ h => h.elim).trans f3 fun b h => .inl (.inr h)).trans f4 fun b h => .inl (.inl h)
  have m0 : addI .i64 (mulI .i64 2 0) 1 = ((2 * 0 + 1 : Nat) : Int) := by rw [mulI_i64 (by omega) (by omega)]; rfl
  have m1 : addI .i64 (mulI .i64 2 0) 2 = ((2 * 0 + 2 : Nat) : Int) := by rw [mulI_i64 (by omega) (by omega)]; rfl
  rw [m0, m1]
  refine bind_intro (bind_intro ?_)
  have hpm : (f 0 :: seg (swp f m 0) 0 m).Perm (seg f 0 (m + 1)) := by
    refine List.Perm.trans ?_ (swp_perm f (i := m) (j := 0) (n := m + 1) (by omega) (by omega))
    rw [seg_snoc, swp_at1]
    exact (List.perm_append_comm (l₁ := [f 0])).trans (List.Perm.refl _)
  have hdn : DnI (swp f m 0) m 0 := dn_start hh (by omega) fun i h0 h1 => swp_other f (by omega) (by omega)
  refine F51_L1_rule (fun it v i cl cr w' => it = some ⟨qb, 0, none⟩ ∧ v = enc (f 0) ∧ ∃ (t : Nat) (g : Nat → It2), i = t ∧ cl = (2 * t + 1 : Nat) ∧ cr = (2 * t + 2 : Nat) ∧ t ≤ m ∧ Blk w' qb 70 (.slice (some ⟨q, 0, none⟩) m c :: rs) ∧ AR w' q c m g ∧ DnI g m t ∧ (f 0 :: seg g 0 m).Perm (seg f 0 (m + 1)) ∧ Fr (fun b => b = qb ∨ b = q) w w')
    (fun _ _ i _ _ _ => (m - i).toNat) ?_ ⟨rfl, rfl, 0, _, rfl, rfl, rfl, Nat.zero_le _, H4, o4, hdn, hpm, f04⟩
  rintro it v i cl cr w5 ⟨rfl, rfl, t, g, rfl, rfl, rfl, ht, H5, h5, d5, p5, f5⟩
  unfold F51_L1
  simp only [NN_mk]
  refine load_slice H5 rfl ?_
  by_cases hcl : 2 * t + 1 < m
  rotate_left
  · rw [decide_eq_false (by omega)]
    simp only [BIf_false]
    exact hk g w5 H5 h5 (dn_done d5 fun i i0 i1 i2 => by unfold par at i2; omega) p5 f5
  rw [decide_eq_true (by omega)]
  simp only [BIf_true]
  refine drw_intro fun w6 f6 z6 => ?_
  have H6 := H5.fr f6 id
  have h6 := h5.fr0 f6
  have f06 := f5.trans f6 fun _ h => h.elim
  refine load_slice H6 rfl ?_
  -- what follows the choice of the lesser child
  have fin : ∀ (ch : Nat) (w7 : World), 2 * t + 1 ≤ ch → ch ≤ 2 * t + 2 → ch < m → (∀ i, 0 < i → i < m → par i = t → key (g ch) ≤ key (g i)) → Blk w7 qb 70 (.slice (some ⟨q, 0, none⟩) m c :: rs) → AR w7 q c m g → Fr (fun b => b = qb ∨ b = q) w w7 →
      F51_J2 k (fun it v i cl cr w' => (it = some ⟨qb, 0, none⟩ ∧ v = enc (f 0) ∧ ∃ (t : Nat) (g : Nat → It2), i = t ∧ cl = (2 * t + 1 : Nat) ∧ cr = (2 * t + 2 : Nat) ∧ t ≤ m ∧ Blk w' qb 70 (.slice (some ⟨q, 0, none⟩) m c :: rs) ∧ AR w' q c m g ∧ DnI g m t ∧ (f 0 :: seg g 0 m).Perm (seg f 0 (m + 1)) ∧ Fr (fun b => b = qb ∨ b = q) w w') ∧ (m - i).toNat < ((m : Int) - (t : Nat)).toNat) (some ⟨qb, 0, none⟩) (enc (f 0)) (t : Nat) (ch : Nat) w7 := by
    intro ch w7 c1 c2 c3 hmin H7 h7 f7
    unfold F51_J2
    refine drw_intro fun w8 f8 z8 => ?_
    have H8 := H7.fr f8 id
    have h8 := h7.fr0 f8
    have f08 := f7.trans f8 fun _ h => h.elim
    simp only [NN_mk]
    refine load_slice H8 rfl ?_
    simp only [NN_mk, Req_iff, LoadT_any, Int.toNat_natCast, add_mk, Nat.zero_add]
    refine ⟨by omega, _, h8.cell c3, ?_⟩
    refine load_slice H8 rfl ?_
    simp only [NN_mk, Req_iff, LoadT_any, Int.toNat_natCast, add_mk, Nat.zero_add]
    refine ⟨by omega, _, h8.cell (by omega), rfl, cmp_intro fun r w9 hr hr' f9 => ?_⟩
    have H9 := H8.fr f9 id
    have h9 := h8.fr0 f9
    have f09 := f08.trans f9 fun _ h => h.elim
    refine ⟨by rw [H9.cell]; rfl, h9.cell c3, by rw [H9.cell]; rfl, ?_⟩
    by_cases hlt : r < 0
    · rw [decide_eq_true hlt]
      simp only [BIf_true]
      refine F50_call (F50_spec (i := t) (j := ch) H9 h9 (by omega) c3 fun wa ha fa => back0 ?_)
      have Ha := H9.fr fa fun e => hqb e.symm
      have ma : mulI .i64 2 (ch : Nat) = ((2 * ch : Nat) : Int) := by rw [mulI_i64 (by omega) (by omega)]; omega
      have mb : addI .i64 ((2 * ch : Nat) : Int) 1 = ((2 * ch + 1 : Nat) : Int) := by rw [addI_i64 (by omega) (by omega)]; omega
      have mc : addI .i64 ((2 * ch : Nat) : Int) 2 = ((2 * ch + 2 : Nat) : Int) := by rw [addI_i64 (by omega) (by omega)]; omega
      rw [ma, mb, mc]
      refine bind_intro (bind_intro ?_)
      exact ⟨⟨(by trivial), (by trivial), ch, _, rfl, rfl, rfl, by omega, Ha, ha, dn_step d5 (by unfold par; omega) (by omega) c3 hmin (hr'.1 hlt), ((swp_perm g (by omega) c3).cons _).trans p5, f09.trans fa fun b e => .inl (.inr e)⟩, by omega⟩
    · rw [decide_eq_false hlt]
      simp only [BIf_false]
      refine hk g w9 H9 h9 (dn_done d5 fun i i0 i1 i2 => ?_) p5 f09
      have h1 := hmin i i0 i1 i2
      have h2 : ¬ key (g ch) < key (g t) := fun h => hlt (hr'.2 h)
      omega
  by_cases hcr : 2 * t + 2 < m
  · rw [decide_eq_true (by omega)]
    simp only [BIf_true]
    refine load_slice H6 rfl ?_
    simp only [NN_mk, Req_iff, LoadT_any, Int.toNat_natCast, add_mk, Nat.zero_add]
    refine ⟨by omega, _, h6.cell hcr, ?_⟩
    refine load_slice H6 rfl ?_
    simp only [NN_mk, Req_iff, LoadT_any, Int.toNat_natCast, add_mk, Nat.zero_add]
    refine ⟨by omega, _, h6.cell hcl, rfl, cmp_intro fun r w9 hr hr' f9 => ?_⟩
    have H9 := H6.fr f9 id
    have h9 := h6.fr0 f9
    have f09 := f06.trans f9 fun _ h => h.elim
    refine ⟨by rw [H9.cell]; rfl, h9.cell hcr, by rw [H9.cell]; rfl, by rw [H9.cell]; rfl, ?_⟩
    unfold F51_J1
    by_cases hlt : r < 0
    · rw [decide_eq_true hlt]
      simp only [BIf_true]
      refine fin (2 * t + 2) w9 (by omega) (by omega) hcr (fun i i0 i1 i2 => ?_) H9 h9 f09
      have h1 := hr'.1 hlt
      have : i = 2 * t + 1 ∨ i = 2 * t + 2 := by unfold par at i2; omega
      rcases this with rfl | rfl
      · omega
      · exact Int.le_refl _
    · rw [decide_eq_false hlt]
      simp only [BIf_false]
      refine fin (2 * t + 1) w9 (by omega) (by omega) hcl (fun i i0 i1 i2 => ?_) H9 h9 f09
      have h1 : ¬ key (g (2 * t + 2)) < key (g (2 * t + 1)) := fun h => hlt (hr'.2 h)
      have : i = 2 * t + 1 ∨ i = 2 * t + 2 := by unfold par at i2; omega
      rcases this with rfl | rfl
      · exact Int.le_refl _
      · omega
  · rw [decide_eq_false (by omega)]
    simp only [BIf_false]
    unfold F51_J1
    simp only [BIf_false]
    refine fin (2 * t + 1) w6 (by omega) (by omega) hcl (fun i i0 i1 i2 => ?_) H6 h6 f06
    have : i = 2 * t + 1 := by unfold par at i2; omega
    subst this
    exact Int.le_refl _
end Go.Proofs.YtbbidbjefdaagaaDoor.E
