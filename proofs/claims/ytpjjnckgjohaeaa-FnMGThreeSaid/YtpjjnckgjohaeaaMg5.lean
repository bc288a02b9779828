/-
  SymMerge, and the merge as the thin package gives it.
-/
import Derived.Test.YtpjjnckgjohaeaaMg4
namespace Go.Proofs.Ytpjjnckgjohaeaa.E
open Go
set_option linter.unusedSimpArgs false
set_option linter.unusedVariables false
set_option maxRecDepth 100000
set_option maxHeartbeats 4000000

/-- What follows the cut: the long way, whichever list is the short one. -/
theorem cut_way {k : Value → W} {w : World} {qs qw ls cs lw cw base : Nat} {ss ll : List (Int × Int)} (hs : Own w 60 (some ⟨qs, 0, none⟩) ls cs (encs ss)) (hw : Own w 60 (some ⟨qw, 0, none⟩) lw cw (encs ll)) (hls : ls = ss.length) (hlw : lw = ll.length)
    (h0 : 0 < ss.length) (hd : ss.length + 2 ≤ ll.length) (hb : ss.length + ll.length < 100000) (hne : qs ≠ qw) (us : Up ss) (ul : Up ll) (hb1 : base ≤ qw)
    (hk : ∀ zs p c w', Own w' 60 p zs.length c (encs zs) → zs.Perm (ss ++ ll) → Up zs → Fr (fun b => base ≤ b) w w' → k (.slice p zs.length c) w') :
    F40_J1 (fun v => Back (.tup [(.one .slice), (.one .slice), (.one .slice), (.one .slice)]) (fun s7p s7l s7c s8p s8l s8c s9p s9l s9c s10p s10l s10c =>
      NextT Try.prog (builtin .append #[56, 56] 56 [false, false].toArray [.slice s7p s7l s7c, .slice s8p s8l s8c].toArray) (.s (.one .slice)) fun s11p s11l s11c =>
      NextT Try.prog (builtin .append #[56, 56] 56 [false, false].toArray [.slice s9p s9l s9c, .slice s10p s10l s10c].toArray) (.s (.one .slice)) fun s12p s12l s12c =>
      CallT Try.prog 41 [.slice s11p s11l s11c, .int .i64 0, .int .i64 ((s7l : Nat) : Int), .int .i64 ((s11l : Nat) : Int)] (.tup []) <|
      CallT Try.prog 41 [.slice s12p s12l s12c, .int .i64 0, .int .i64 ((s9l : Nat) : Int), .int .i64 ((s12l : Nat) : Int)] (.tup []) <|
      NextT Try.prog (builtin .append #[56, 56] 56 [false, false].toArray [.slice s11p s11l s11c, .slice s12p s12l s12c].toArray) (.s (.one .slice)) fun s13p s13l s13c =>
      k (.slice s13p s13l s13c)) (.returned v)) (some ⟨qs, 0, none⟩) ls cs (some ⟨qw, 0, none⟩) lw cw w := by
  have hqw : qw < w.heap.size := hw.lt (b := qw) ⟨_, rfl, rfl⟩
  refine F40_J1_spec hs hw hls hlw h0 hd (by omega) hne fun i o rest p7 p9 w1 ho hi gL gR o7 o9 hB h7 h9 f1 cc dd => back_four ?_
  have hsz := f1.size
  refine far_way (base := w.heap.size) us ul hi (by omega) (by omega) (by omega) hb (fun h1 h2 => ?_) (fun h1 h2 => ?_) o7 o9 hB h7 h9 hqw hsz fun zs p c w2 o2 hp hup f2 => ?_
  · have := gL h1; rwa [show o + ss.length - i = o + (ss.length - i) by omega] at this
  · have := gR h1; rwa [show o + ss.length - 1 - i = o + (ss.length - i) - 1 by omega] at this
  · refine hk zs p c w2 o2 hp hup ((f1.mono (S' := fun b => base ≤ b) fun b e => .inl (by have : b = qw := e; omega)).trans f2 fun b hb => .inl (by have : w.heap.size ≤ b := hb; omega))
/-- SymMerge. -/
theorem F31_spec {k : Value → W} {w : World} {qu qw lu cu lw cw base : Nat} {us ws : List (Int × Int)} (hu : Own w 60 (some ⟨qu, 0, none⟩) lu cu (encs us)) (hw : Own w 60 (some ⟨qw, 0, none⟩) lw cw (encs ws)) (hlu : lu = us.length) (hlw : lw = ws.length)
    (h0 : 0 < us.length) (h1 : 0 < ws.length) (hb : us.length + ws.length ≤ 64) (hne : qu ≠ qw) (pu : Up us) (pw : Up ws) (hb1 : base ≤ qu) (hb2 : base ≤ qw)
    (hk : ∀ zs p c w', Own w' 60 p zs.length c (encs zs) → zs.Perm (us ++ ws) → Up zs → Fr (fun b => base ≤ b) w w' → k (.slice p zs.length c) w') :
    F31 k (some ⟨qu, 0, none⟩) lu cu (some ⟨qw, 0, none⟩) lw cw w := by
  unfold F31
  rw [show (((lu : Nat) : Int) == 0) = false by simp; omega]
  simp only [BIf_false]
  rw [show (((lw : Nat) : Int) == 0) = false by simp; omega]
  simp only [BIf_false]
  rw [subI_i64 (by omega) (by omega)]
  refine bind_intro (conv ?_)
  refine F39_call (F39_spec ⟨(_, ()), rfl, ?_⟩)
  refine gtr (by omega) (by omega) ?_
  by_cases hfar : (lu : Int) - lw < -1 ∨ 1 < (lu : Int) - lw
  · rw [decide_eq_true hfar]
    simp only [BIf_true]
    refine F40_call ?_
    unfold F40
    refine F47_call (back_int ?_)
    refine F47_call (back_int ?_)
    by_cases hgt : lw < lu
    · rw [decide_eq_true (by omega)]
      simp only [BIf_true]
      refine cut_way (base := base) hw hu hlw hlu h1 (by omega) (by omega) (Ne.symm hne) pw pu hb1 fun zs p c w' o hp hup f => hk zs p c w' o (hp.trans List.perm_append_comm) hup f
    · rw [decide_eq_false (by omega)]
      simp only [BIf_false]
      exact cut_way (base := base) hu hw hlu hlw h0 (by omega) (by omega) hne pu pw hb2 hk
  · rw [decide_eq_false hfar]
    simp only [BIf_false]
    subst hlu; subst hlw
    obtain ⟨ii, hi1, hi2, hi3, hi4⟩ := inf60
    refine append_own (P := Try.prog) und55 hi1 hi2 hi3 (by decide) rfl (by omega) hu.toN (news := encs ws) (by rw [encs_length]; simp) (reads_own hw) (encs_one _) (by omega) fun p2 c2 w2 f2 o2 hp2 => ?_
    have o2 := Own.ofN o2
    rw [← encs_append] at o2
    obtain ⟨q2, r2, rfl, _, _, _⟩ := o2.get (by omega)
    have hq2 : base ≤ q2 := by
      rcases hp2 q2 ⟨_, rfl, rfl⟩ with ⟨a, h, e⟩ | h
      · cases h; have : qu = q2 := e; omega
      · have := hu.lt (b := qu) ⟨_, rfl, rfl⟩; omega
    refine merge_row (R := fun e w' => Back (.tup []) (k (.slice (some ⟨q2, 0, none⟩) (us.length + ws.length) c2)) e w') o2 rfl (by omega) pu pw fun zs w3 g3 hz hp hup f3 => back0 ?_
    rw [← hz] at g3 ⊢
    refine hk zs _ c2 w3 g3 hp hup ((f2.mono (S' := fun b => base ≤ b) fun b ⟨a, h, e⟩ => .inl (by cases h; have : qu = b := e; omega)).trans f3 fun b e => .inl (by have : b = q2 := e; omega))

theorem und34 : Try.prog.underlying 34 = some (.slice 54) := by kernel_rfl
theorem und36 : Try.prog.underlying 36 = some (.slice 3) := by kernel_rfl
theorem inf54 : ∃ i, Try.prog.info? 54 = some i ∧ i.zero = some (.agg #[.int .i64 0, .int .i64 0]) ∧ i.size = 2 ∧ i.bytes = 16 := ⟨_, rfl, by kernel_rfl, by kernel_rfl, by kernel_rfl⟩
theorem inf3 : ∃ i, Try.prog.info? 3 = some i ∧ i.zero = some (.int .i64 0) ∧ i.size = 1 ∧ i.bytes = 8 := ⟨_, rfl, by kernel_rfl, by kernel_rfl, by kernel_rfl⟩
def z54 : Value := .agg #[.int .i64 0, .int .i64 0]
theorem fill1 (x y : Int) : ∀ i : TypeInfo, i.size = 2 → Instr.fill (fun j => some (j * i.size, i.size)) ((Array.range (1 * i.size)).map (z54.cells[· % z54.cells.size]!)) [(0, .agg #[.int .i64 x, .int .i64 y])] = some (flat [(x, y)]).toArray := by
  intro i h
  rw [h]
  kernel_rfl
/-- mgItems. -/
theorem F32_spec {k : Value → W} {w : World} {p : Option Addr} {l c : Nat} {es : List (Int × Int)} (hE : Edges w p es) (hl : l = es.length) (h0 : 0 < es.length) (hb : es.length < 1000)
    (hk : ∀ q c' w', w.heap.size ≤ q → Own w' 60 (some ⟨q, 0, none⟩) l c' (encs es) → Fr (fun _ => False) w w' → k (.slice (some ⟨q, 0, none⟩) l c') w') : F32 k p l c w := by
  subst hl
  unfold F32
  obtain ⟨ii, hi1, hi2, hi3, hi4⟩ := inf60
  refine make_intro (P := Try.prog) 0 es.length und55 hi1 hi2 hi3 rfl (by omega) (by omega) (Nat.zero_le _) fun w1 f1 o1 b1 z1 => ?_
  refine F32_L1_rule (fun op ol oc sp sl sc x5 x6 w' => sp = p ∧ sl = es.length ∧ x5 = (es.length : Nat) ∧ ∃ i : Nat, x6 = i ∧ i ≤ es.length ∧ ol = i ∧ Own w' 60 op i oc (encs (es.take i)) ∧ (∀ b, bl op b → w.heap.size ≤ b) ∧ Fr (fun _ => False) w w')
    (fun _ _ _ _ _ _ x5 x6 _ => (x5 - x6).toNat) ?_ ⟨rfl, rfl, rfl, 0, rfl, Nat.zero_le _, rfl, o1, fun b ⟨a, h, e⟩ => (by cases h; exact Nat.le_of_eq e), f1⟩
  rintro op ol oc sp sl sc x5 x6 w2 ⟨hsp, hsl, rfl, i, rfl, hi, hol, o2, hb2, f2⟩
  obtain rfl := hsp.symm; obtain rfl := hsl.symm; obtain rfl := hol.symm
  unfold F32_L1
  by_cases hil : i < es.length
  rotate_left
  · have : i = es.length := by omega
    subst this
    rw [decide_eq_false (by omega)]
    rw [List.take_length] at o2
    simp only [BIf_false]
    obtain ⟨q, r, rfl, _, _, _⟩ := o2.get h0
    exact hk q oc w2 (hb2 q ⟨_, rfl, rfl⟩) o2 f2
  rw [decide_eq_true (by omega)]
  have hget : es[i]? = some (es[i]'(by omega)) := List.getElem?_eq_getElem _
  generalize es[i]'(by omega) = q at hget
  obtain ⟨a, rfl, c1, c2⟩ := hE.fr0 f2 i q hget
  simp only [BIf_true, NN_mk, Int.toNat_natCast]
  refine ⟨by omega, LoadT_int.2 ⟨_, c1, LoadT_int.2 ⟨_, c2, ?_⟩⟩⟩
  refine new_intro fun n w3 hn b3 f3 z3 => ?_
  refine store_intro b3 (by simp) rfl fun w4 b4 f4 z4 => ?_
  refine store_intro b4 (by simp) rfl fun w5 b5 f5 z5 => ?_
  have f25 : Fr (fun _ => False) w2 w5 := (f3.trans f4 fun x e => .inr (by have : x = n := e; omega)).trans f5 fun x e => .inr (by have : x = n := e; omega)
  refine load_int b5 rfl (load_int b5 rfl ?_)
  have o5 := o2.fr f25 fun _ _ h => h
  have f05 := f2.trans f25 fun _ h => h.elim
  refine append1 (P := Try.prog) und55 hi1 hi2 hi3 rfl (by omega) o5 rfl rfl (by omega) fun p7 c7 w7 f7 o7 hp7 hs7 => ?_
  rw [add_one (by omega)]
  refine ⟨⟨(by trivial), (by trivial), (by trivial), i + 1, rfl, by omega, (by trivial), ?_, ?_, f05.trans f7 fun b hb => .inr (hb2 b hb)⟩, by omega⟩
  · rw [take_snoc hget, encs_append]; exact o7
  · intro b hb
    rcases hp7 b hb with h | h
    · exact hb2 b h
    · exact Nat.le_trans f05.size h
/-- MGMerge. -/
theorem F17_spec {k : Value → W} {w : World} {pu pw : Option Addr} {lu cu lw cw : Nat} {us ws : List (Int × Int)} (hu : Edges w pu us) (hw : Edges w pw ws) (hlu : lu = us.length) (hlw : lw = ws.length)
    (h0 : 0 < us.length) (h1 : 0 < ws.length) (hb : us.length + ws.length ≤ 64) (uu : Up us) (uw : Up ws)
    (hk : ∀ zs p c w', OwnN w' 54 2 p zs.length c (flat zs) → zs.Perm (us ++ ws) → Up zs → Fr (fun _ => False) w w' → k (.slice p zs.length c) w') : F17 k pu lu cu pw lw cw w := by
  unfold F17
  refine F32_call (F32_spec hu hlu h0 (by omega) fun q3 c3 w1 hq3 o1 f1 => back_slice ?_)
  have hq3' := o1.lt (b := q3) ⟨_, rfl, rfl⟩
  refine F32_call (F32_spec (hw.fr0 f1) hlw h1 (by omega) fun q4 c4 w2 hq4 o2 f2 => back_slice ?_)
  have hs1 := f1.size
  refine F31_call (F31_spec (base := w.heap.size) (o1.fr f2 fun _ _ h => h) o2 hlu hlw h0 h1 hb (by omega) uu uw hq3 (by omega) fun zs p5 c5 w3 o3 hp hup f3 => back_slice ?_)
  have hzl : zs.length = us.length + ws.length := by rw [hp.length_eq, List.length_append]
  have f03 : Fr (fun _ => False) w w3 := (f1.trans f2 fun _ h => h.elim).trans f3 fun b hb => .inr hb
  obtain ⟨qz, rz, rfl, _, _, _⟩ := o3.get (by omega)
  obtain ⟨ii, hi1, hi2, hi3, hi4⟩ := inf54
  refine F17_L1_rule (fun op ol oc sp sl sc x8 x9 w' => sp = some ⟨qz, 0, none⟩ ∧ sl = zs.length ∧ x8 = (zs.length : Nat) ∧ ∃ i : Nat, x9 = i ∧ i ≤ zs.length ∧ ol = i ∧ OwnN w' 54 2 op i oc (flat (zs.take i)) ∧ (∀ b, bl op b → w3.heap.size ≤ b) ∧ Fr (fun _ => False) w3 w')
    (fun _ _ _ _ _ _ x8 x9 _ => (x8 - x9).toNat) ?_ ⟨rfl, rfl, rfl, 0, rfl, Nat.zero_le _, rfl, OwnN.nil _ _ _, fun b ⟨a, h, e⟩ => (by cases h), Fr.refl _ _⟩
  rintro op ol oc sp sl sc x8 x9 w4 ⟨hsp, hsl, rfl, i, rfl, hi, hol, o4, hb4, f4⟩
  obtain rfl := hsp.symm; obtain rfl := hsl.symm; obtain rfl := hol.symm
  unfold F17_L1
  by_cases hil : i < zs.length
  rotate_left
  · have : i = zs.length := by omega
    subst this
    rw [decide_eq_false (by omega)]
    rw [List.take_length] at o4
    simp only [BIf_false]
    exact hk zs op oc w4 o4 hp hup (f03.trans f4 fun _ h => h.elim)
  rw [decide_eq_true (by omega)]
  have hcell := (o3.fr f4 fun _ _ h => h).cellE hil
  have hget := fn_get hil
  generalize fn zs i = q at hcell hget
  simp only [BIf_true, NN_mk, Int.toNat_natCast, add_mk, Nat.zero_add]
  refine ⟨by omega, LoadT_any.2 ⟨_, hcell, ?_⟩⟩
  refine ⟨(q.1, q.2, ()), rfl, ?_⟩
  show RawT _ _ _ _ w4
  refine build_intro und34 hi1 hi2 (by omega) (by omega) (fill1 q.1 q.2 ii hi3) fun w5 f5 b5 z5 => ?_
  have o5 := o4.fr f5 fun _ _ h => h
  refine append_own (P := Try.prog) und34 hi1 hi2 hi3 (by decide) rfl (by omega) o5 (news := flat [(q.1, q.2)]) (m := 1) (flat_length _) ?_ (flat_one _) (by omega) fun p8 c8 w8 f8 o8 hp8 => ?_
  · intro j u hj
    rw [add_mk, Nat.zero_add, b5.cell]; exact hj
  rw [add_one (by omega)]
  have f45 := f4.trans f5 fun _ h => h.elim
  refine ⟨⟨(by trivial), (by trivial), (by trivial), i + 1, rfl, by omega, (by trivial), ?_, ?_, f45.trans f8 fun b hb => .inr (hb4 b hb)⟩, by omega⟩
  · rw [take_snoc hget, flat_append]; exact o8
  · intro b hb
    rcases hp8 b hb with h | h
    · exact hb4 b h
    · exact Nat.le_trans f45.size h
end Go.Proofs.Ytpjjnckgjohaeaa.E
