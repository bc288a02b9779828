/-
  A step on the queue.
-/
import Derived.Test.YtbbidbjefdaagaaDoorPq3
namespace Go.Proofs.YtbbidbjefdaagaaDoor.E
open Go
set_option linter.unusedSimpArgs false
set_option linter.unusedVariables false
set_option maxRecDepth 100000
set_option maxHeartbeats 4000000

theorem fill28 (x y : Int) : ∀ i : TypeInfo, i.size = 2 → Instr.fill (fun j => some (j * i.size, i.size)) ((Array.range (1 * i.size)).map (z28.cells[· % z28.cells.size]!)) [(0, .agg #[.int .i64 x, .int .i64 y])] = some (flat [(x, y)]).toArray := by
  intro i h
  rw [h]
  kernel_rfl
theorem back_said {f : Option Addr → Nat → Nat → Int → Bool → Int → W} {p : Option Addr} {l c : Nat} {n : Int} {b : Bool} {e : Int} {w : World} (h : f p l c n b e w) : Back (.s (.agg [.slice, (.int .i64), .bool, (.int .i64)])) f (.returned (.agg #[.slice p l c, .int .i64 n, .bool b, .int .i64 e])) w := ⟨((p, l, c), n, b, e, ()), rfl, h⟩
theorem OwnN.blk {w : World} {e : TypeId} {sz : Nat} {p : Option Addr} {l c : Nat} {vs : List Value} (h : OwnN w e sz p l c vs) {b : Nat} (hb : bl p b) : ∃ us, Blk w b e us := by
  obtain ⟨a, rfl, rfl⟩ := hb
  rcases h.2 with ⟨h, _⟩ | ⟨q, rest, h, hb, _⟩
  · cases h
  · cases h; exact ⟨_, hb⟩
theorem F32_nil {k : Value → W} {w : World} (hk : k (.int .i64 0) w) : F32 k .nilIface w := by
  unfold F32
  rw [IfaceNil_nil]
  exact hk

/-- A step that puts. -/
theorem F20_put {k : Value → W} {w : World} {qb mb q l c ic : Nat} {dup : Bool} {f : Nat → It2} {ks xs : List It2} {ip : Option Addr} {n : Int} (hQ : PQ w qb mb q l c dup f ks) (hE : Edges w ip xs) (hb : l + xs.length < 100000)
    (hk : ∀ q' l' c' g ks' w', PQ w' qb mb q' l' c' dup g ks' → (seg g 0 l').Perm (addAll dup (seg f 0 l) xs) → (q' = q ∨ w.heap.size ≤ q') → Fr (fun b => b = qb ∨ b = mb ∨ b = q) w w' → k (.agg #[.slice none 0 0, .int .i64 0, .bool false, .int .i64 0]) w') : F20 k (some ⟨qb, 0, none⟩) 1 n ip xs.length ic w := by
  unfold F20
  refine new_intro fun n5 w1 e1 b1 f1 z1 => ?_
  refine new_intro fun n6 w2 e2 b2 f2 z2 => ?_
  have b12 := b1.fr f2 id
  refine load_int b12 rfl ?_
  simp only [show ((1 : Int) == 1) = true from rfl, BIf_true]
  refine load_slice (i := 2) b12 rfl ?_
  have f02 := f1.trans f2 fun _ h => h.elim
  refine F20_L1_rule (fun qp ad lp ll lc sp sl sc x13 x14 w' => qp = some ⟨qb, 0, none⟩ ∧ ad = ⟨n6, 0, none⟩ ∧ sp = ip ∧ sl = xs.length ∧ x13 = (xs.length : Nat) ∧ ∃ i : Nat, x14 = i ∧ i ≤ xs.length ∧ ll = i ∧ Own w' 81 lp i lc (encs (xs.take i)) ∧ (∀ b, bl lp b → w2.heap.size ≤ b) ∧ Fr (fun _ => False) w2 w')
    (fun _ _ _ _ _ _ _ _ x13 x14 _ => (x13 - x14).toNat) ?_ ⟨rfl, rfl, rfl, rfl, rfl, 0, rfl, Nat.zero_le _, rfl, Own.nil _ _, fun b ⟨a, h, _⟩ => (by cases h), Fr.refl _ _⟩
  rintro qp ad lp ll lc sp sl sc x13 x14 w3 ⟨rfl, rfl, e4, e5, rfl, i, rfl, hi, e6, o3, hp3, f3⟩
  obtain rfl := e4.symm; obtain rfl := e5.symm; obtain rfl := e6.symm
  have f03 := f02.trans f3 fun _ h => h.elim
  unfold F20_L1
  by_cases hil : i < xs.length
  · rw [decide_eq_true (by omega)]
    have hget : xs[i]? = some (xs[i]'(by omega)) := List.getElem?_eq_getElem _
    generalize xs[i]'(by omega) = x at hget
    obtain ⟨a, rfl, c1, c2⟩ := hE.fr0 f03 i x hget
    simp only [BIf_true, NN_mk, Int.toNat_natCast]
    refine ⟨by omega, LoadT_int.2 ⟨_, c1, LoadT_int.2 ⟨_, c2, ?_⟩⟩⟩
    refine new_intro fun n w4 e4 b4 f4 z4 => ?_
    refine store_intro b4 (by simp) rfl fun w5 b5 f5 z5 => ?_
    refine store_intro b5 (by simp) rfl fun w6 b6 f6 z6 => ?_
    refine load_int (i := 0) b6 rfl (load_int (i := 1) b6 rfl ?_)
    have f36 : Fr (fun _ => False) w3 w6 := (f4.trans f5 fun b e => .inr (by have : b = n := e; omega)).trans f6 fun b e => .inr (by have : b = n := e; omega)
    rw [add_one (by omega)]
    obtain ⟨i81, a1, a2, a3, a4⟩ := inf81
    refine append1 (P := Tryd.prog) und66 a1 a2 a3 rfl (by omega) (o3.fr f36 fun _ _ h => h) rfl rfl (by omega) fun p7 c7 w7 f7 o7 hp7 hs7 => ?_
    refine ⟨⟨(by trivial), (by trivial), (by trivial), (by trivial), (by trivial), i + 1, rfl, by omega, (by trivial), ?_, ?_, (f3.trans f36 fun _ h => h.elim).trans f7 fun b hb => .inr (hp3 b hb)⟩, by omega⟩
    · rw [take_snoc hget, encs_append]; exact o7
    · intro b hb
      rcases hp7 b hb with h | h
      · exact hp3 b h
      · have := f3.size; have := f36.size; omega
  · have : i = xs.length := by omega
    subst this
    rw [decide_eq_false (by omega)]
    rw [List.take_length] at o3
    simp only [BIf_false]
    have hz3 := f03.size
    have hz2 := f02.size
    refine F33_call (F33_spec (hQ.fr0 f03) o3.its (fun b hb => ?_) hb fun q' l' c' g ks' w4 Q4 p4 hq4 f4 => back_any ?_)
    · have h1 := hp3 b hb
      have h2 := fun h => hQ.lt (b := b) h
      refine ⟨fun e => ?_, fun e => ?_, fun e => ?_, o3.lt hb⟩
      · have := h2 (.inl e); omega
      · have := h2 (.inr (.inl e)); omega
      · have := h2 (.inr (.inr e)); omega
    refine F32_call (F32_nil (back_int ?_))
    have hn6 : ∀ b, (b = qb ∨ b = mb ∨ b = q) → b ≠ n6 := fun b h => by have := hQ.lt h; omega
    have b4 := (b2.fr f3 id).fr f4 fun h => hn6 n6 h rfl
    refine store_intro (i := 0) b4 (by simp) rfl fun w5 b5 f5 z5 => ?_
    refine store_intro (i := 1) b5 (by simp) rfl fun w6 b6 f6 z6 => ?_
    refine store_intro (i := 2) b6 (by simp) rfl fun w7 b7 f7 z7 => ?_
    refine store_intro (i := 3) b7 (by simp) rfl fun w8 b8 f8 z8 => ?_
    refine load_slice (i := 0) b8 rfl (load_int (i := 1) b8 rfl (load_bool (i := 2) b8 rfl (load_int (i := 3) b8 rfl ?_)))
    have f48 : Fr (fun b => b = n6) w4 w8 := ((f5.trans f6 fun b h => .inl h).trans f7 fun b h => .inl h).trans f8 fun b h => .inl h
    have hq4' : ∀ b, (b = qb ∨ b = mb ∨ b = q') → ¬ b = n6 := fun b h e => by
      rcases h with h | h | h
      · exact hn6 b (.inl h) e
      · exact hn6 b (.inr (.inl h)) e
      · rcases hq4 with h' | h'
        · exact hn6 b (.inr (.inr (h.trans h'))) e
        · have := f3.size; omega
    refine hk q' l' c' g ks' w8 (Q4.fr f48 hq4') p4 (hq4.imp id fun h => by omega) ((((f03.mono fun _ h => h.elim).trans f4 fun b h => .inl h)).trans f48 fun b h => .inr (by have : b = n6 := h; omega))

/-- A step that takes. -/
theorem F20_get {k : Value → W} {w : World} {qb mb q l c N il ic : Nat} {dup : Bool} {f : Nat → It2} {ks : List It2} {ip : Option Addr} (hQ : PQ w qb mb q l c dup f ks) (h0 : 0 < l) (hl : l < 100000) (hN0 : 0 < N) (hN : N < 100000)
    (hk : ∀ ys p' c' l' g ks' w', PQ w' qb mb q l' c dup g ks' → Got (seg f 0 l) ys (seg g 0 l') → ys.length = min N l → OwnN w' 28 2 p' ys.length c' (flat ys) → Fr (fun b => b = qb ∨ b = mb ∨ b = q) w w' → k (.agg #[.slice p' ys.length c', .int .i64 0, .bool false, .int .i64 0]) w') : F20 k (some ⟨qb, 0, none⟩) 2 (N : Nat) ip il ic w := by
  unfold F20
  refine new_intro fun n5 w1 e1 b1 f1 z1 => ?_
  refine new_intro fun n6 w2 e2 b2 f2 z2 => ?_
  have b12 := b1.fr f2 id
  have f02 := f1.trans f2 fun _ h => h.elim
  have Q2 := hQ.fr0 f02
  refine load_int b12 rfl ?_
  simp only [show ((2 : Int) == 1) = false from rfl, show ((2 : Int) == 2) = true from rfl, BIf_true, BIf_false]
  refine load_int (i := 1) b12 rfl ?_
  rw [decide_eq_true (by omega)]
  simp only [BIf_true]
  refine F34_call ?_
  unfold F34
  simp only [NN_mk]
  refine load_slice Q2.head rfl (back_bool ?_)
  rw [show (((l : Nat) : Int) == 0) = false by rw [beq_eq_false_iff_ne]; omega]
  simp only [BIf_false]
  unfold F20_J1
  simp only [BIf_false]
  refine load_int (i := 1) b12 rfl ?_
  refine F36_call (F36_spec Q2 hl hN0 hN fun ys p' c' l' g ks' w3 Q3 got hyl o3 hp3 f3 => back_pair ?_)
  refine F32_call (F32_nil (back_int ?_))
  have hz2 := f02.size
  have hz3 := f3.size
  refine new_intro fun n45 w4 e4 b4 f4 z4 => ?_
  refine store_intro (i := 0) b4 (by simp) rfl fun w5 b5 f5 z5 => ?_
  refine store_intro (i := 1) b5 (by simp) rfl fun w6 b6 f6 z6 => ?_
  refine store_intro (i := 2) b6 (by simp) rfl fun w7 b7 f7 z7 => ?_
  refine store_intro (i := 3) b7 (by simp) rfl fun w8 b8 f8 z8 => ?_
  have f48 : Fr (fun b => b = n45) w4 w8 := ((f5.trans f6 fun b h => .inl h).trans f7 fun b h => .inl h).trans f8 fun b h => .inl h
  have f38 : Fr (fun _ => False) w3 w8 := f4.trans f48 fun b h => .inr (by have : b = n45 := h; omega)
  have Q8 := Q3.fr0 f38
  have b68 := (b2.fr f3 fun h => by have := hQ.lt h; omega).fr f38 id
  rw [← hyl] at o3 ⊢
  have o8 := o3.fr f38 fun _ _ h => h
  have hz8 := f38.size
  have hn45 : n45 < w8.heap.size := b8.lt
  have hpn : ∀ b, bl p' b → b ≠ n45 := fun b hb => by have := o3.lt hb; omega
  refine F20_L2_rule (fun ad ot sp sl sc x49 x50 w' => ad = ⟨n6, 0, none⟩ ∧ ot = ⟨n45, 0, none⟩ ∧ sp = p' ∧ sl = ys.length ∧ x49 = (ys.length : Nat) ∧ ∃ (i : Nat) (p : Option Addr) (c : Nat), x50 = i ∧ i ≤ ys.length ∧ Blk w' n45 46 [.slice p i c, .int .i64 0, .bool false, .int .i64 0] ∧ OwnN w' 28 2 p i c (flat (ys.take i)) ∧ (∀ b, bl p b → w8.heap.size ≤ b) ∧ Fr (fun b => b = n45) w8 w')
    (fun _ _ _ _ _ x49 x50 _ => (x49 - x50).toNat) ?_ ⟨rfl, rfl, rfl, rfl, rfl, 0, none, 0, rfl, Nat.zero_le _, b8, OwnN.nil _ _ _, fun b ⟨a, h, _⟩ => (by cases h), Fr.refl _ _⟩
  rintro ad ot sp sl sc x49 x50 w9 ⟨rfl, rfl, e3, e4', rfl, i, p, c9, rfl, hi, b9, o9, hp9, f9⟩
  obtain rfl := e3.symm; obtain rfl := e4'.symm
  unfold F20_L2
  by_cases hil : i < ys.length
  · rw [decide_eq_true (by omega)]
    have hget : ys[i]? = some (ys[i]'(by omega)) := List.getElem?_eq_getElem _
    generalize ys[i]'(by omega) = x at hget
    obtain ⟨a, rfl, hc⟩ := o8.its.fr f9 (fun b hb e => hpn b hb e) i x hget
    simp only [BIf_true, NN_mk, Int.toNat_natCast]
    refine ⟨by omega, LoadT_any.2 ⟨_, hc, ?_⟩⟩
    refine drw_intro fun wa fa za => ?_
    have ba := b9.fr fa id
    have oa := o9.fr fa fun _ _ h => h
    refine load_slice (i := 0) ba rfl ?_
    refine ⟨(x.1, x.2, ()), rfl, ?_⟩
    obtain ⟨i28, g1, g2, g3, g4⟩ := inf28
    show RawT _ _ _ _ wa
    refine build_intro und25 g1 g2 (by omega) (by omega) (fill28 x.1 x.2 i28 g3) fun wb fb bb zb => ?_
    have bb0 := ba.fr fb id
    refine ⟨by rw [bb0.cell]; rfl, ?_⟩
    have hread : ∀ j u, (flat [(x.1, x.2)])[j]? = some u → wb.cell? ((⟨wa.heap.size, 0, none⟩ : Addr).add j) = some u := fun j u hu => by rw [add_mk, Nat.zero_add, bb.cell]; exact hu
    refine append_own (P := Tryd.prog) und25 g1 g2 g3 (by decide) rfl g4 (oa.fr fb fun _ _ h => h) (news := flat [(x.1, x.2)]) (m := 1) (flat_length _) hread (flat_one _) (by omega) fun pc cc wc fc oc hpc => ?_
    have hzz := f9.size
    have hza : wa.heap.size = w9.heap.size := za
    have hzb : wb.heap.size = wa.heap.size + 1 := zb
    have bc := bb0.fr fc fun h => by have := hp9 n45 h; omega
    refine store_intro (i := 0) bc (by simp) rfl fun wd bd fd zd => ?_
    rw [add_one (by omega)]
    have hpcn : ∀ b, bl pc b → ¬ b = n45 := fun b hb e => by
      obtain ⟨us, hu⟩ := oc.blk hb
      rw [e] at hu
      exact absurd (hu.unique bc).1 (by decide)
    refine ⟨⟨(by trivial), (by trivial), (by trivial), (by trivial), (by trivial), i + 1, pc, cc, rfl, by omega, bd, ?_, ?_, ?_⟩, by omega⟩
    · rw [take_snoc hget, flat_append]; exact oc.fr fd hpcn
    · intro b hb
      rcases hpc b hb with h | h
      · exact hp9 b h
      · omega
    · refine (((f9.trans fa fun _ h => h.elim).trans fb fun _ h => h.elim).trans fc fun b hb => .inr (hp9 b hb)).trans fd fun b h => .inl h
  · have : i = ys.length := by omega
    subst this
    rw [decide_eq_false (by omega)]
    rw [List.take_length] at o9
    simp only [BIf_false]
    refine load_slice (i := 0) b9 rfl (load_int (i := 1) b9 rfl (load_bool (i := 2) b9 rfl (load_int (i := 3) b9 rfl ?_)))
    have hn6 : n6 < w2.heap.size := b2.lt
    have b69 := b68.fr f9 (fun e => by have : n6 = n45 := e; omega)
    refine store_intro (i := 0) b69 (by simp) rfl fun wa ba fa za => ?_
    refine store_intro (i := 1) ba (by simp) rfl fun wb bb fb zb => ?_
    refine store_intro (i := 2) bb (by simp) rfl fun wc bc fc zc => ?_
    refine store_intro (i := 3) bc (by simp) rfl fun wd bd fd zd => ?_
    refine load_slice (i := 0) bd rfl (load_int (i := 1) bd rfl (load_bool (i := 2) bd rfl (load_int (i := 3) bd rfl ?_)))
    have f9d : Fr (fun b => b = n6) w9 wd := ((fa.trans fb fun b h => .inl h).trans fc fun b h => .inl h).trans fd fun b h => .inl h
    have hfoot : ∀ b, (b = qb ∨ b = mb ∨ b = q) → ¬ b = n45 ∧ ¬ b = n6 := fun b h => by have := hQ.lt h; exact ⟨by omega, by omega⟩
    refine hk ys p c9 l' g ks' wd ((Q8.fr f9 fun b h e => (hfoot b h).1 e).fr f9d fun b h e => (hfoot b h).2 e) got hyl (o9.fr f9d fun b hb e => by have := hp9 b hb; have : b = n6 := e; omega) ?_
    refine ((((f02.mono fun _ h => h.elim).trans f3 fun b h => .inl h).trans f38 fun _ h => h.elim).trans f9 fun b h => .inr (by have : b = n45 := h; omega)).trans f9d fun b h => .inr (by have : b = n6 := h; omega)
end Go.Proofs.YtbbidbjefdaagaaDoor.E
