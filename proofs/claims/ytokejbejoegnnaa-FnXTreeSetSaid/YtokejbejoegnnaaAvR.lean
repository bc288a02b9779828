/-
  Trees made, asked, added to.
-/
import Derived.Test.YtokejbejoegnnaaAvL
import Derived.Test.YtokejbejoegnnaaWide
namespace Go.Proofs.Ytokejbejoegnnaa.E
open Go Tr
set_option linter.unusedSimpArgs false
set_option linter.unusedVariables false
set_option maxRecDepth 100000
set_option maxHeartbeats 4000000

theorem und70 : Try.prog.underlying 70 = some (.slice 93) := by kernel_rfl
theorem und71 : Try.prog.underlying 71 = some (.slice 93) := by kernel_rfl
theorem und37 : Try.prog.underlying 37 = some (.slice 40) := by kernel_rfl
theorem und47 : Try.prog.underlying 47 = some (.slice 46) := by kernel_rfl
theorem und51 : Try.prog.underlying 51 = some (.slice 42) := by kernel_rfl
theorem und65 : Try.prog.underlying 65 = some (.slice 68) := by kernel_rfl
theorem inf93 : ∃ i, Try.prog.info? 93 = some i ∧ i.zero = some .nilIface ∧ i.size = 1 ∧ i.bytes ≤ 4096 := ⟨_, rfl, by kernel_rfl, by kernel_rfl, Nat.le_of_ble_eq_true (by kernel_rfl)⟩
theorem inf68 : ∃ i, Try.prog.info? 68 = some i ∧ i.zero = some (.pointer none) ∧ i.size = 1 ∧ i.bytes ≤ 4096 := ⟨_, rfl, by kernel_rfl, by kernel_rfl, Nat.le_of_ble_eq_true (by kernel_rfl)⟩
def z40 : Value := .agg #[.int .i64 0, .int .i64 0]
def z42 : Value := .agg #[.int .i64 0, .slice none 0 0, .slice none 0 0]
def z46 : Value := .agg #[.int .i64 0, .int .i64 0, .slice none 0 0]
theorem inf40 : ∃ i, Try.prog.info? 40 = some i ∧ i.zero = some z40 ∧ i.size = 2 ∧ i.bytes ≤ 4096 := ⟨_, rfl, by kernel_rfl, by kernel_rfl, Nat.le_of_ble_eq_true (by kernel_rfl)⟩
theorem inf42 : ∃ i, Try.prog.info? 42 = some i ∧ i.zero = some z42 ∧ i.size = 3 ∧ i.bytes ≤ 4096 := ⟨_, rfl, by kernel_rfl, by kernel_rfl, Nat.le_of_ble_eq_true (by kernel_rfl)⟩
theorem inf46 : ∃ i, Try.prog.info? 46 = some i ∧ i.zero = some z46 ∧ i.size = 3 ∧ i.bytes ≤ 4096 := ⟨_, rfl, by kernel_rfl, by kernel_rfl, Nat.le_of_ble_eq_true (by kernel_rfl)⟩

/-- Entries as the package takes them, readable at p. -/
def EIts (w : World) (p : Option Addr) (xs : List It2) : Prop := ∀ i x, xs[i]? = some x → ∃ a, p = some a ∧ w.cell? (a.add i) = some (encE x)
theorem EIts.fr {T : Nat → Prop} {w w' : World} {p : Option Addr} {xs : List It2} (h : EIts w p xs) (f : Fr T w w') (hT : ∀ b, bl p b → ¬ T b) : EIts w' p xs := fun i x hx => by
  obtain ⟨a, h1, h2⟩ := h i x hx
  subst h1
  have hb : (a.add i).block = a.block := by unfold Addr.add; split <;> rfl
  exact ⟨a, rfl, by rw [f.cell (cell_lt h2) (by rw [hb]; exact hT _ ⟨_, rfl, rfl⟩)]; exact h2⟩
theorem EIts.fr0 {w w' : World} {p : Option Addr} {xs : List It2} (h : EIts w p xs) (f : Fr (fun _ => False) w w') : EIts w' p xs := h.fr f fun _ _ h => h
theorem Own.eits {w : World} {p : Option Addr} {l c : Nat} {xs : List It2} (h : Own w 93 p l c (xs.map encE)) : EIts w p xs := fun i x hx => by
  have hl : xs.length = l := by simpa using h.1
  have hi : i < xs.length := (List.getElem?_eq_some_iff.1 hx).1
  obtain ⟨q, rest, rfl, _, _, _⟩ := h.get (by omega)
  exact ⟨_, rfl, by rw [add_mk, Nat.zero_add, h.cell (by omega), List.getElem?_map, hx]; rfl⟩
/-- avEntries. -/
theorem F29_spec {k : Value → W} {w : World} {p : Option Addr} {c : Nat} {es : List It2} (hE : Edges w p es) (hb : es.length < 100000)
    (hk : ∀ q c' w', Own w' 93 q es.length c' (es.map encE) → (∀ b, bl q b → w.heap.size ≤ b) → Fr (fun _ => False) w w' → k (.slice q es.length c') w') : F29 k p es.length c w := by
  unfold F29
  refine F29_L1_rule (fun op ol oc sp sl sc x4 x5 w' => sp = p ∧ sl = es.length ∧ x4 = (es.length : Nat) ∧ ∃ i : Nat, x5 = i ∧ i ≤ es.length ∧ ol = i ∧ Own w' 93 op i oc ((es.take i).map encE) ∧ (∀ b, bl op b → w.heap.size ≤ b) ∧ Fr (fun _ => False) w w')
    (fun _ _ _ _ _ _ x4 x5 _ => (x4 - x5).toNat) ?_ ⟨rfl, rfl, rfl, 0, rfl, Nat.zero_le _, rfl, Own.nil _ _, fun b ⟨a, h, e⟩ => (by cases h), Fr.refl _ _⟩
  rintro op ol oc sp sl sc x4 x5 w2 ⟨hsp, hsl, rfl, i, rfl, hi, hol, o2, hb2, f2⟩
  obtain rfl := hsp.symm; obtain rfl := hsl.symm; obtain rfl := hol.symm
  unfold F29_L1
  by_cases hil : i < es.length
  rotate_left
  · have : i = es.length := by omega
    subst this
    rw [decide_eq_false (by omega)]
    rw [List.take_length] at o2
    simp only [BIf_false]
    exact hk _ _ w2 o2 hb2 f2
  rw [decide_eq_true (by omega)]
  have hget : es[i]? = some (es[i]'(by omega)) := List.getElem?_eq_getElem _
  generalize es[i]'(by omega) = q at hget
  obtain ⟨a, rfl, c1, c2⟩ := hE.fr0 f2 i q hget
  simp only [BIf_true, NN_mk, Int.toNat_natCast]
  refine ⟨by omega, LoadT_int.2 ⟨_, c1, LoadT_int.2 ⟨_, c2, ?_⟩⟩⟩
  refine new_intro fun n w3 hn b3 f3 z3 => ?_
  refine store_intro (i := 0) b3 (by simp) rfl fun w4 b4 f4 z4 => ?_
  refine store_intro (i := 1) b4 (by simp) rfl fun w5 b5 f5 z5 => ?_
  have f25 : Fr (fun _ => False) w2 w5 := (f3.trans f4 fun x e => .inr (by have : x = n := e; omega)).trans f5 fun x e => .inr (by have : x = n := e; omega)
  refine load_int (i := 0) b5 rfl (load_int (i := 1) b5 rfl ?_)
  obtain ⟨ii, hi1, hi2, hi3, hi4⟩ := inf93
  have f05 := f2.trans f25 fun _ h => h.elim
  refine append1 (P := Try.prog) und70 hi1 hi2 hi3 rfl (by omega) (o2.fr f25 fun _ _ h => h) rfl rfl (by omega) fun p7 c7 w7 f7 o7 hp7 hs7 => ?_
  rw [add_one (by omega)]
  refine ⟨⟨(by trivial), (by trivial), (by trivial), i + 1, rfl, by omega, (by trivial), ?_, ?_, f05.trans f7 fun b hb => .inr (hb2 b hb)⟩, by omega⟩
  · rw [take_snoc hget, List.map_append]; exact o7
  · intro b hb
    rcases hp7 b hb with h | h
    · exact hb2 b h
    · exact Nat.le_trans f05.size h

theorem TM.weak {w : World} {base ib num : Nat} {t : Tr} (h : TM w base ib t num) : TM w 0 ib t num := ⟨h.im, h.tr, h.avl, h.srt, h.nd, h.num, fun _ _ => Nat.zero_le _, Nat.zero_le _⟩
theorem TM.fr0 {w w' : World} {base ib num : Nat} {t : Tr} (h : TM w base ib t num) (f : Fr (fun _ => False) w w') : TM w' base ib t num := ⟨Blk.fr h.im f id, h.tr.fr0 f, h.avl, h.srt, h.nd, h.num, h.root, h.ibb⟩
/-- NewImmutable. -/
theorem F42_spec {k : Value → W} {w : World} (hk : ∀ ib w', TM w' 0 ib nil 0 → w.heap.size ≤ ib → Fr (fun _ => False) w w' → k (.pointer (some ⟨ib, 0, none⟩)) w') : F42 k w := by
  unfold F42
  refine new_intro fun n w1 e1 b1 f1 z1 => ?_
  refine F58_call ?_
  unfold F58
  simp only [NN_mk]
  refine store_intro (i := 2) b1 (by simp) rfl fun w2 b2 f2 z2 => ?_
  refine store_intro (i := 3) b2 (by simp) rfl fun w3 b3 f3 z3 => ?_
  refine store_intro (i := 4) b3 (by simp) rfl fun w4 b4 f4 z4 => ?_
  refine store_intro (i := 5) b4 (by simp) rfl fun w5 b5 f5 z5 => back0 ?_
  have f05 : Fr (fun _ => False) w w5 := (((f1.trans f2 fun x e => .inr (by have : x = n := e; omega)).trans f3 fun x e => .inr (by have : x = n := e; omega)).trans f4 fun x e => .inr (by have : x = n := e; omega)).trans f5 fun x e => .inr (by have : x = n := e; omega)
  exact hk n w5 ⟨b5, trivial, trivial, List.Pairwise.nil, List.nodup_nil, rfl, fun _ _ => Nat.zero_le _, Nat.zero_le _⟩ (by omega) f05
/-- copy, of a tree's head. -/
theorem F59_spec {k : Value → W} {w : World} {ib num base : Nat} {t : Tr} (hT : TM w 0 ib t num) (hbase : base ≤ w.heap.size) (hk : ∀ ib' t' w', TM w' base ib' t' num → t'.list = t.list → (∀ b ∈ t'.bs, b ∈ t.bs ∨ w.heap.size ≤ b) → Fr (fun _ => False) w w' → k (.pointer (some ⟨ib', 0, none⟩)) w') : F59 k (some ⟨ib, 0, none⟩) w := by
  have rest : ∀ (t' : Tr) (w1 : World), TrM w1 t' → t'.AVL → t'.list = t.list → t'.bs.Nodup → (∀ b ∈ t'.bs, b ∈ t.bs ∨ w.heap.size ≤ b) → (∀ b, t'.ptr = some ⟨b, 0, none⟩ → base ≤ b) → Fr (fun _ => False) w w1 → F59_J1 k (some ⟨ib, 0, none⟩) t'.ptr w1 := by
    intro t' w1 h1 h2 h3 h4 h6 h5 f1
    unfold F59_J1
    refine drw_intro fun w2 f2 z2 => ?_
    have i2 := (Blk.fr hT.im f1 id).fr f2 id
    simp only [NN_mk]
    refine load_int (i := 1) i2 rfl ?_
    refine F69_call (F69_spec rfl fun n w3 e3 b3 f3 z3 => back_ptr ?_)
    have i3 := i2.fr f3 id
    refine ⟨by show w3.cell? ⟨ib, 1, none⟩ = _; rw [i3.cell]; rfl, ?_⟩
    simp only [NN_mk]
    refine load_int (i := 0) b3 rfl (load_ptr (i := 1) b3 rfl (load_ptr (i := 2) b3 rfl (load_any (i := 3) b3 rfl ?_)))
    refine new_intro fun m w4 e4 b4 f4 z4 => ?_
    have b34 := b3.fr f4 id
    have i4 := i3.fr f4 id
    refine ⟨by show w4.cell? ⟨n, 0, none⟩ = _; rw [b34.cell]; rfl, by show w4.cell? ⟨n, 1, none⟩ = _; rw [b34.cell]; rfl, by show w4.cell? ⟨n, 2, none⟩ = _; rw [b34.cell]; rfl, by show w4.cell? ⟨n, 3, none⟩ = _; rw [b34.cell]; rfl, by show w4.cell? ⟨ib, 1, none⟩ = _; rw [i4.cell]; rfl, ?_⟩
    have f14 := (f2.trans f3 fun _ h => h.elim).trans f4 fun _ h => h.elim
    have f04 := f1.trans f14 fun _ h => h.elim
    refine hk m t' w4 ⟨b4, h1.fr0 f14, h2, by rw [h3]; exact hT.srt, h4, by rw [h3]; exact hT.num, h5, ?_⟩ h3 h6 f04
    have := f1.size; have := (f2.trans f3 fun _ h => h.elim).size; omega
  unfold F59
  simp only [NN_mk]
  refine load_ptr (i := 0) hT.im rfl ?_
  cases t with
  | nil =>
    simp only [Tr.ptr, Option.isNone_none, Bool.not_true, BIf_false]
    exact rest nil w trivial trivial rfl List.nodup_nil (fun b h => by cases h) (fun b h => by cases h) (Fr.refl _ _)
  | nd b bal l e r =>
    simp only [Tr.ptr, Option.isNone_some, Bool.not_false, BIf_true]
    refine load_ptr (i := 0) hT.im rfl ?_
    have htr := hT.tr
    refine F68_call (F68_spec htr.1 fun n w1 hn b1 f1 => back_ptr ?_)
    have hlt := hT.tr.lt
    have hnd := hT.nd
    simp only [Tr.bs, List.nodup_cons] at hnd
    refine rest (.nd n bal l e r) w1 ⟨b1, htr.2.1.fr0 f1, htr.2.2.fr0 f1⟩ hT.avl rfl ?_ (fun a ha => by
      simp only [Tr.bs, List.mem_cons] at ha ⊢
      rcases ha with rfl | ha
      · exact .inr hn
      · exact .inl (.inr ha)) (fun b' h => by simp only [Tr.ptr, Option.some.injEq, Addr.mk.injEq] at h; omega) f1
    simp only [Tr.bs, List.nodup_cons]
    exact ⟨fun hm => by have := hlt n (by simp only [Tr.bs, List.mem_cons]; exact .inr hm); omega, hnd.2⟩

/-! ## Asking -/
theorem look_node {l r : List It2} {e0 : It2} {q : Int} (h : Srt (l ++ e0 :: r)) : look (l ++ e0 :: r) q = if kx e0 = q then some e0 else if q < kx e0 then look l q else look r q := by
  obtain ⟨h1, h2, _⟩ := srt_mid h
  by_cases he : kx e0 = q
  · rw [if_pos he]; exact look_mid (fun y hy => by have := h1 y hy; omega) he
  · rw [if_neg he, look_skip he]
    unfold look
    rw [List.find?_append]
    by_cases hl : q < kx e0
    · have hn : r.find? (fun x => kx x == q) = none := List.find?_eq_none.2 fun y hy => by have := h2 y hy; simp; omega
      rw [if_pos hl, hn]
      simp
    · have hn : l.find? (fun x => kx x == q) = none := List.find?_eq_none.2 fun y hy => by have := h1 y hy; simp; omega
      rw [if_neg hl, hn]
      simp
theorem F46_spec {k : Value → W} {w : World} {ib num : Nat} {t : Tr} {e : It2} (hT : TM w 0 ib t num) (hk : ∀ w', Fr (fun _ => False) w w' → k (vE (look t.list (kx e))) w') : F46 k (some ⟨ib, 0, none⟩) (encE e) w := by
  unfold F46
  simp only [NN_mk]
  refine load_ptr (i := 0) hT.im rfl ?_
  refine F46_L1_rule (fun en n w' => en = encE e ∧ ∃ m s, TrM w' s ∧ Srt s.list ∧ look s.list (kx e) = look t.list (kx e) ∧ n = s.ptr ∧ s.bs.length = m ∧ Fr (fun _ => False) w w')
    (fun en n w' => mn fun m => ∃ s, TrM w' s ∧ Srt s.list ∧ look s.list (kx e) = look t.list (kx e) ∧ n = s.ptr ∧ s.bs.length = m ∧ Fr (fun _ => False) w w') ?_ ⟨rfl, _, t, hT.tr, hT.srt, rfl, rfl, rfl, Fr.refl _ _⟩
  rintro en n w1 ⟨rfl, hex⟩
  obtain ⟨s, hs, hsrt, hlk, rfl, hm, f1⟩ := mn_spec hex
  unfold F46_L1
  cases s with
  | nil =>
    simp only [Tr.ptr, Option.isNone_none, Bool.not_true, BIf_false]
    have := hk w1 f1
    rw [← hlk] at this
    exact this
  | nd b bal l e0 r =>
    have ep : (Tr.nd b bal l e0 r).ptr = some ⟨b, 0, none⟩ := rfl
    rw [ep]
    simp only [Option.isNone_some, Bool.not_false, BIf_true, NN_mk]
    obtain ⟨hb, hl, hr⟩ := hs
    refine load_any (i := 3) hb rfl ?_
    refine cmpE fun w2 f2 => ?_
    have f02 := f1.trans f2 fun _ h => h.elim
    have hb2 := hb.fr f2 id
    rw [show (Tr.nd b bal l e0 r).list = l.list ++ e0 :: r.list from rfl] at hsrt hlk
    rw [look_node hsrt] at hlk
    obtain ⟨_, _, sl, sr, _⟩ := srt_mid hsrt
    have go : ∀ s' : Tr, TrM w2 s' → Srt s'.list → look s'.list (kx e) = look t.list (kx e) → s'.bs.length < (Tr.nd b bal l e0 r).bs.length → ((encE e = encE e ∧ ∃ m s, TrM w2 s ∧ Srt s.list ∧ look s.list (kx e) = look t.list (kx e) ∧ s'.ptr = s.ptr ∧ s.bs.length = m ∧ Fr (fun _ => False) w w2) ∧
        (mn fun m => ∃ s, TrM w2 s ∧ Srt s.list ∧ look s.list (kx e) = look t.list (kx e) ∧ s'.ptr = s.ptr ∧ s.bs.length = m ∧ Fr (fun _ => False) w w2) < (mn fun m => ∃ s, TrM w1 s ∧ Srt s.list ∧ look s.list (kx e) = look t.list (kx e) ∧ (some (⟨b, 0, none⟩ : Addr)) = s.ptr ∧ s.bs.length = m ∧ Fr (fun _ => False) w w1)) := by
      intro s' h1 h2 h3 h4
      refine ⟨⟨rfl, _, s', h1, h2, h3, rfl, rfl, f02⟩, ?_⟩
      exact Nat.lt_of_lt_of_eq (mn_lt (m := s'.bs.length) ⟨s', h1, h2, h3, rfl, rfl, f02⟩ h4) hm
    rcases Int.lt_trichotomy (kx e0) (kx e) with hlt | heq | hgt
    · have hc : cmpI (kx e0) (kx e) = -1 := by unfold cmpI; rw [if_pos hlt]
      rw [hc]
      simp only [show ((-1 : Int) == 0) = false from rfl, show decide ((-1 : Int) > 0) = false from rfl, show decide ((-1 : Int) < 0) = true from rfl, BIf_true, BIf_false, NN_mk]
      refine ⟨by decide, load_ptr (i := 2) hb2 rfl ?_⟩
      rw [if_neg (by omega), if_neg (by omega)] at hlk
      have gg := go r (hr.fr0 f2) sr hlk (by simp only [Tr.bs, List.length_cons, List.length_append]; omega)
      exact ⟨⟨(by trivial), gg.1.2⟩, gg.2⟩
    · have hc : cmpI (kx e0) (kx e) = 0 := by unfold cmpI; rw [if_neg (by omega), if_neg (by omega)]
      rw [hc]
      simp only [show ((0 : Int) == 0) = true from rfl, BIf_true, NN_mk]
      refine load_any (i := 3) hb2 rfl ?_
      rw [if_pos heq] at hlk
      have := hk w2 f02
      rw [← hlk] at this
      exact this
    · have hc : cmpI (kx e0) (kx e) = 1 := by unfold cmpI; rw [if_neg (by omega), if_pos hgt]
      rw [hc]
      simp only [show ((1 : Int) == 0) = false from rfl, show decide ((1 : Int) > 0) = true from rfl, BIf_true, BIf_false, NN_mk]
      refine ⟨by decide, load_ptr (i := 1) hb2 rfl ?_⟩
      rw [if_neg (by omega), if_pos hgt] at hlk
      have gg := go l (hl.fr0 f2) sl hlk (by simp only [Tr.bs, List.length_cons, List.length_append]; omega)
      exact ⟨⟨(by trivial), gg.1.2⟩, gg.2⟩
theorem vE_one (v : Option It2) : (vE v).oneCell' = true := by cases v <;> rfl
theorem vE_cells (v : Option It2) : (vE v).cells = #[vE v] := by cases v <;> rfl
/-- Get. -/
theorem F28_spec {k : Value → W} {w : World} {ib num : Nat} {t : Tr} {p : Option Addr} {c : Nat} {es : List It2} (hT : TM w 0 ib t num) (hE : EIts w p es) (hb : es.length < 100000)
    (hk : ∀ q c' w', Own w' 93 q es.length c' ((es.map fun e => look t.list (kx e)).map vE) → (∀ b, bl q b → w.heap.size ≤ b) → Fr (fun _ => False) w w' → k (.slice q es.length c') w') : F28 k (some ⟨ib, 0, none⟩) p es.length c w := by
  unfold F28
  obtain ⟨ii, hi1, hi2, hi3, hi4⟩ := inf93
  refine make_intro (P := Try.prog) 0 es.length und71 hi1 hi2 hi3 rfl (by omega) (by omega) (Nat.zero_le _) fun w1 f1 o1 b1 z1 => ?_
  refine F28_L1_rule (fun im op ol oc sp sl sc x7 x8 w' => im = some ⟨ib, 0, none⟩ ∧ sp = p ∧ sl = es.length ∧ x7 = (es.length : Nat) ∧ ∃ i : Nat, x8 = i ∧ i ≤ es.length ∧ ol = i ∧ Own w' 93 op i oc (((es.take i).map fun e => look t.list (kx e)).map vE) ∧ (∀ b, bl op b → w.heap.size ≤ b) ∧ Fr (fun _ => False) w w')
    (fun _ _ _ _ _ _ _ x7 x8 _ => (x7 - x8).toNat) ?_ ⟨rfl, rfl, rfl, rfl, 0, rfl, Nat.zero_le _, rfl, o1, fun b ⟨a, h, e⟩ => (by cases h; exact Nat.le_of_eq e), f1⟩
  rintro im op ol oc sp sl sc x7 x8 w2 ⟨rfl, hsp, hsl, rfl, i, rfl, hi, hol, o2, hb2, f2⟩
  obtain rfl := hsp.symm; obtain rfl := hsl.symm; obtain rfl := hol.symm
  unfold F28_L1
  by_cases hil : i < es.length
  rotate_left
  · have : i = es.length := by omega
    subst this
    rw [decide_eq_false (by omega)]
    rw [List.take_length] at o2
    simp only [BIf_false]
    exact hk _ _ w2 o2 hb2 f2
  rw [decide_eq_true (by omega)]
  have hget : es[i]? = some (es[i]'(by omega)) := List.getElem?_eq_getElem _
  generalize es[i]'(by omega) = x at hget
  obtain ⟨a, rfl, c1⟩ := hE.fr0 f2 i x hget
  simp only [BIf_true, NN_mk, Int.toNat_natCast]
  refine ⟨by omega, LoadT_any.2 ⟨_, c1, ?_⟩⟩
  refine F46_call (F46_spec (hT.fr0 f2) fun w3 f3 => back_any ?_)
  have f03 := f2.trans f3 fun _ h => h.elim
  refine append1 (P := Try.prog) und71 hi1 hi2 hi3 rfl (by omega) (o2.fr f3 fun _ _ h => h) (vE_one _) (vE_cells _) (by omega) fun p7 c7 w7 f7 o7 hp7 hs7 => ?_
  rw [add_one (by omega)]
  refine ⟨⟨(by trivial), (by trivial), (by trivial), (by trivial), i + 1, rfl, by omega, (by trivial), ?_, ?_, f03.trans f7 fun b hb => .inr (hb2 b hb)⟩, by omega⟩
  · rw [take_snoc hget, List.map_append, List.map_append]; exact o7
  · intro b hb
    rcases hp7 b hb with h | h
    · exact hb2 b h
    · exact Nat.le_trans f03.size h
end Go.Proofs.Ytokejbejoegnnaa.E
