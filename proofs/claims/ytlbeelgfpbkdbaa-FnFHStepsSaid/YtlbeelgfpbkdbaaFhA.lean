/-
  Rows of steps: what is said.
-/
import Derived.Test.YtlbeelgfpbkdbaaFh9
import Derived.Test.YtlbeelgfpbkdbaaFlm
namespace Go.Proofs.Ytlbeelgfpbkdbaa.E
open Go
set_option linter.unusedSimpArgs false
set_option linter.unusedVariables false
set_option maxRecDepth 100000
set_option maxHeartbeats 4000000

def stc (s : FS) : List Value := [.int .i64 s.op, .int .i64 (s.n : Nat), .int .i64 s.p, .slice none 0 0]
theorem stc_len (s : FS) : (stc s).length = 4 := rfl
theorem stc_one (s : FS) : ∀ u ∈ stc s, u.oneCell' = true := by
  intro u hu
  simp only [stc, List.mem_cons, List.not_mem_nil, or_false] at hu
  rcases hu with rfl | rfl | rfl | rfl <;> rfl
def sdc (d : FD) : List Value := [.bool true, .int .i64 (d.e : Nat), .int .i64 d.p, .int .i64 (d.z : Nat), .bool (decide (d.z = 0))]
theorem sdc_len (s : FD) : (sdc s).length = 5 := rfl
theorem sdc_one (s : FD) : ∀ u ∈ sdc s, u.oneCell' = true := by
  intro u hu
  simp only [sdc, List.mem_cons, List.not_mem_nil, or_false] at hu
  rcases hu with rfl | rfl | rfl | rfl | rfl <;> rfl
theorem und27 : Try.prog.underlying 27 = some (.slice 30) := by kernel_rfl
theorem und31 : Try.prog.underlying 31 = some (.slice 34) := by kernel_rfl
theorem und24 : Try.prog.underlying 24 = some (.slice 3) := by kernel_rfl
def z30 : Value := .agg #[.int .i64 0, .int .i64 0, .int .i64 0, .slice none 0 0]
def z34 : Value := .agg #[.bool false, .int .i64 0, .int .i64 0, .int .i64 0, .bool false]
theorem inf30 : ∃ i, Try.prog.info? 30 = some i ∧ i.zero = some z30 ∧ i.size = 4 ∧ i.bytes ≤ 4096 := ⟨_, rfl, by kernel_rfl, by kernel_rfl, Nat.le_of_ble_eq_true (by kernel_rfl)⟩
theorem inf34 : ∃ i, Try.prog.info? 34 = some i ∧ i.zero = some z34 ∧ i.size = 5 ∧ i.bytes ≤ 4096 := ⟨_, rfl, by kernel_rfl, by kernel_rfl, Nat.le_of_ble_eq_true (by kernel_rfl)⟩
theorem inf3 : ∃ i, Try.prog.info? 3 = some i ∧ i.zero = some (.int .i64 0) ∧ i.size = 1 ∧ i.bytes ≤ 4096 := ⟨_, rfl, by kernel_rfl, by kernel_rfl, Nat.le_of_ble_eq_true (by kernel_rfl)⟩
theorem OwnN.blk {w : World} {e : TypeId} {sz : Nat} {p : Option Addr} {l c : Nat} {vs : List Value} (h : OwnN w e sz p l c vs) {b : Nat} (hb : bl p b) : ∃ us, Blk w b e us := by
  obtain ⟨a, rfl, rfl⟩ := hb
  rcases h.2 with ⟨h, _⟩ | ⟨q, rest, h, hb, _⟩
  · cases h
  · cases h; exact ⟨_, hb⟩
theorem fill27 (s : FS) : ∀ i : TypeInfo, i.size = 4 → Instr.fill (fun j => some (j * i.size, i.size)) ((Array.range (1 * i.size)).map (z30.cells[· % z30.cells.size]!)) [(0, .agg #[.int .i64 s.op, .int .i64 (s.n : Nat), .int .i64 s.p, .slice none 0 0])] = some ([s].flatMap stc).toArray := by
  intro i h
  rw [h]
  kernel_rfl
theorem fill27_2 (s t : FS) : ∀ i : TypeInfo, i.size = 4 → Instr.fill (fun j => some (j * i.size, i.size)) ((Array.range (2 * i.size)).map (z30.cells[· % z30.cells.size]!)) [(0, .agg #[.int .i64 s.op, .int .i64 (s.n : Nat), .int .i64 s.p, .slice none 0 0]), (1, .agg #[.int .i64 t.op, .int .i64 (t.n : Nat), .int .i64 t.p, .slice none 0 0])] = some ([s, t].flatMap stc).toArray := by
  intro i h
  rw [h]
  kernel_rfl
theorem fill27_3 (s t u : FS) : ∀ i : TypeInfo, i.size = 4 → Instr.fill (fun j => some (j * i.size, i.size)) ((Array.range (3 * i.size)).map (z30.cells[· % z30.cells.size]!)) [(0, .agg #[.int .i64 s.op, .int .i64 (s.n : Nat), .int .i64 s.p, .slice none 0 0]), (1, .agg #[.int .i64 t.op, .int .i64 (t.n : Nat), .int .i64 t.p, .slice none 0 0]), (2, .agg #[.int .i64 u.op, .int .i64 (u.n : Nat), .int .i64 u.p, .slice none 0 0])] = some ([s, t, u].flatMap stc).toArray := by
  intro i h
  rw [h]
  kernel_rfl
theorem fill31 (a b : Bool) (x y z : Int) : ∀ i : TypeInfo, i.size = 5 → Instr.fill (fun j => some (j * i.size, i.size)) ((Array.range (1 * i.size)).map (z34.cells[· % z34.cells.size]!)) [(0, .agg #[.bool a, .int .i64 x, .int .i64 y, .int .i64 z, .bool b])] = some [.bool a, .int .i64 x, .int .i64 y, .int .i64 z, .bool b].toArray := by
  intro i h
  rw [h]
  kernel_rfl
theorem back_slice' {f : Option Addr → Nat → Nat → W} {p : Option Addr} {l c : Nat} {w : World} (h : f p l c w) : Back (.s (.one .slice)) f (.returned (.slice p l c)) w := back_slice h
abbrev Steps (w : World) (p : Option Addr) (l c : Nat) (ss : List FS) : Prop := OwnN w 30 4 p l c (ss.flatMap stc)
abbrev Saids (w : World) (p : Option Addr) (l c : Nat) (ds : List FD) : Prop := OwnN w 34 5 p l c (ds.flatMap sdc)
def NewS (base : Nat) (p : Option Addr) : Prop := ∀ b, bl p b → base ≤ b
theorem NewS.fr {w w' w'' : World} {S : Nat → Prop} (f : Fr S w w') (h : ∀ b, S b → w.heap.size ≤ b) (f0 : Fr (fun _ => False) w'' w) : Fr (fun _ => False) w'' w' := f0.trans f fun b hb => .inr (by have := h b hb; have := f0.size; omega)
theorem Steps.len {w : World} {p : Option Addr} {l c : Nat} {ss : List FS} (h : Steps w p l c ss) : ss.length = l := by
  have := h.1
  rw [fm_len stc_len] at this; omega
/-- More steps behind. -/
theorem steps_more {K : Option Addr → Nat → Nat → W} {w : World} {p : Option Addr} {l c q m d : Nat} {ss tt : List FS} (h : Steps w p l c ss) (hB : Blk w q 30 (tt.flatMap stc)) (hm : m = tt.length) (hb : l + m < 100000)
    (hk : ∀ p' c' w', Steps w' p' (l + m) c' (ss ++ tt) → (∀ b, bl p' b → bl p b ∨ w.heap.size ≤ b) → Fr (fun b => bl p b) w w' → K p' (l + m) c' w') :
    NextT Try.prog (builtin .append #[27, 27] 27 [false, false].toArray [.slice p l c, .slice (some ⟨q, 0, none⟩) m d].toArray) (.s (.one .slice)) K w := by
  obtain ⟨ii, g1, g2, g3, g4⟩ := inf30
  refine append_own (P := Try.prog) und27 g1 g2 g3 (by decide) rfl g4 h (news := tt.flatMap stc) (m := m) (by rw [fm_len stc_len, hm]) (fun j u hj => ?_) (fm_one stc_one _) (by omega) fun p' c' w' f' o' hp' => ?_
  · rw [add_mk, Nat.zero_add, hB.cell]; exact hj
  · rw [← List.flatMap_append] at o'
    exact hk p' c' w' o' hp' f'
theorem step1 {K : Option Addr → Nat → Nat → W} {w : World} {s : FS} (hk : ∀ q w', Blk w' q 30 ([s].flatMap stc) → Fr (fun _ => False) w w' → q = w.heap.size → K (some ⟨q, 0, none⟩) 1 1 w') :
    RawT Try.prog (Instr.buildSlice 27 1 [(0, .agg #[.int .i64 s.op, .int .i64 (s.n : Nat), .int .i64 s.p, .slice none 0 0])].toArray) (.s (.one .slice)) K w := by
  obtain ⟨ii, g1, g2, g3, g4⟩ := inf30
  exact build_intro und27 g1 g2 (by omega) (by omega) (fill27 s ii g3) fun w1 f1 b1 z1 => hk _ w1 b1 f1 rfl
theorem step2 {K : Option Addr → Nat → Nat → W} {w : World} {s t : FS} (hk : ∀ q w', Blk w' q 30 ([s, t].flatMap stc) → Fr (fun _ => False) w w' → q = w.heap.size → K (some ⟨q, 0, none⟩) 2 2 w') :
    RawT Try.prog (Instr.buildSlice 27 2 [(0, .agg #[.int .i64 s.op, .int .i64 (s.n : Nat), .int .i64 s.p, .slice none 0 0]), (1, .agg #[.int .i64 t.op, .int .i64 (t.n : Nat), .int .i64 t.p, .slice none 0 0])].toArray) (.s (.one .slice)) K w := by
  obtain ⟨ii, g1, g2, g3, g4⟩ := inf30
  exact build_intro und27 g1 g2 (by omega) (by omega) (fill27_2 s t ii g3) fun w1 f1 b1 z1 => hk _ w1 b1 f1 rfl
theorem step3 {K : Option Addr → Nat → Nat → W} {w : World} {s t u : FS} (hk : ∀ q w', Blk w' q 30 ([s, t, u].flatMap stc) → Fr (fun _ => False) w w' → q = w.heap.size → K (some ⟨q, 0, none⟩) 3 3 w') :
    RawT Try.prog (Instr.buildSlice 27 3 [(0, .agg #[.int .i64 s.op, .int .i64 (s.n : Nat), .int .i64 s.p, .slice none 0 0]), (1, .agg #[.int .i64 t.op, .int .i64 (t.n : Nat), .int .i64 t.p, .slice none 0 0]), (2, .agg #[.int .i64 u.op, .int .i64 (u.n : Nat), .int .i64 u.p, .slice none 0 0])].toArray) (.s (.one .slice)) K w := by
  obtain ⟨ii, g1, g2, g3, g4⟩ := inf30
  exact build_intro und27 g1 g2 (by omega) (by omega) (fill27_3 s t u ii g3) fun w1 f1 b1 z1 => hk _ w1 b1 f1 rfl
/-- clone. -/
theorem F12_spec {k : Value → W} {w : World} {p : Option Addr} {l c : Nat} {ss : List FS} (h : Steps w p l c ss) (hl : l < 90000) (h0 : 0 < l)
    (hk : ∀ p' c' w', Steps w' p' l c' ss → NewS w.heap.size p' → Fr (fun _ => False) w w' → k (.slice p' l c') w') : F12 k p l c w := by
  have hlen := h.len
  unfold F12
  obtain ⟨q, rest, rfl, _⟩ := h.get h0
  obtain ⟨ii, g1, g2, g3, g4⟩ := inf30
  simp only [Option.isNone_some, BIf_false]
  refine build_none und27 g1 fun w1 f1 b1 z1 => ?_
  have h1 := h.fr f1 fun _ _ h => h
  have o1 : OwnN w1 30 4 (some ⟨w.heap.size, 0, none⟩) 0 0 [] := ⟨by simp, .inr ⟨_, [], rfl, by simpa using b1, by simp, by omega, by simp [maxLen]⟩⟩
  refine append_own (P := Try.prog) und27 g1 g2 g3 (by decide) rfl g4 o1 (news := ss.flatMap stc) (m := l) (by rw [fm_len stc_len, hlen]) (fun j u hj => ?_) (fm_one stc_one _) (by omega) fun p' c' w' f' o' hp' => ?_
  · have hj' := (List.getElem?_eq_some_iff.1 hj).1
    rw [fm_len stc_len, hlen] at hj'
    rw [add_mk, Nat.zero_add, h1.cell hj']; exact hj
  · rw [Nat.zero_add] at o' ⊢
    have hb : ∀ b, bl (some (⟨w.heap.size, 0, none⟩ : Addr)) b → w.heap.size ≤ b := fun b ⟨a, h, e⟩ => by cases h; exact Nat.le_of_eq e
    exact hk p' c' w' (by simpa using o') (fun b hb' => (hp' b hb').elim (hb b) fun h => by have := f1.size; omega) (f1.trans f' fun b h => .inr (hb b h))

/-! ## All steps -/
def After (P : List (Option Int) → Option Nat → List FD → Prop) : List FS → List (Option Int) → Option Nat → List FD → Prop
  | [], Q, mi, out => P Q mi out
  | s :: ss, Q, mi, out => FFit s Q ∧ ∀ Q' mi' sd, FStep s Q mi Q' mi' sd → After P ss Q' mi' (out ++ [sd])
/-- FHRun. -/
theorem F9_spec {k : Value → W} {w : World} {p : Option Addr} {n c : Nat} (ss : List FS) (P : List (Option Int) → Option Nat → List FD → Prop) (hS : Steps w p n c ss) (hl : n ≤ 1000) (hA : After P ss [] none [])
    (hk : ∀ op oc w' Q mi out, P Q mi out → out.length = n → Saids w' op n oc out → NewS w.heap.size op → Fr (fun _ => False) w w' → k (.slice op n oc) w') : F9 k p n c w := by
  have hlen := hS.len
  subst hlen
  unfold F9
  refine F13_call (F13_spec fun w1 f1 => back_hs ?_)
  refine new_intro fun n4 w2 e2 b2 f2 z2 => ?_
  refine store_intro (i := 0) b2 (by simp) rfl fun w3 b3 f3 z3 => ?_
  refine store_intro (i := 1) b3 (by simp) rfl fun w4 b4 f4 z4 => ?_
  refine new_intro fun n5 w5 e5 b5 f5 z5 => ?_
  have hs1 := f1.size
  have h4 := b4.lt
  have f14 : Fr (fun _ => False) w1 w4 := (f2.trans f3 fun b h => .inr (by have : b = n4 := h; omega)).trans f4 fun b h => .inr (by have : b = n4 := h; omega)
  have f05 := (f1.trans f14 fun _ h => h.elim).trans f5 fun _ h => h.elim
  have b45 : Blk w5 n4 45 [.pointer none, .int .u64 0] := b4.fr f5 id
  have H0 : FMx w5 w.heap.size n5 [] none := ⟨n4, none, 0, [], [], fun _ => 0, none, ⟨b5, Own.nil _ _, hp_new b45 _, by simp, (fun i j x hi => by cases hi), rfl, (fun x h => by cases h), fun _ => rfl, by omega, by omega, (fun b ⟨a, h, _⟩ => by cases h), (fun x h => by cases h), by simp⟩⟩
  refine F9_L1_rule (fun h6 op ol oc sp sl sc x9 x10 w' => h6 = ⟨n5, 0, none⟩ ∧ sp = p ∧ sl = ss.length ∧ x9 = (ss.length : Nat) ∧ ∃ (i : Nat) (Q : List (Option Int)) (mi : Option Nat) (out : List FD), x10 = i ∧ i ≤ ss.length ∧ ol = i ∧ out.length = i ∧ FMx w' w.heap.size n5 Q mi ∧ After P (ss.drop i) Q mi out ∧ Saids w' op i oc out ∧ NewS w.heap.size op ∧ Fr (fun _ => False) w w')
    (fun _ _ _ _ _ _ _ x9 x10 _ => (x9 - x10).toNat) ?_ ⟨rfl, rfl, rfl, rfl, 0, [], none, [], rfl, Nat.zero_le _, rfl, rfl, H0, hA, OwnN.nil _ _ _, (fun b hb => (by obtain ⟨a, h, _⟩ := hb; cases h)), f05⟩
  rintro h6 op ol oc sp sl sc x9 x10 wa ⟨rfl, esp, rfl, rfl, i, Q, mi, out, rfl, hi, eol, hol, H, hAf, O, hO, f0⟩
  obtain rfl := esp.symm
  obtain rfl := eol.symm
  unfold F9_L1
  by_cases hil : i < ss.length
  · rw [decide_eq_true (by omega)]
    have hget : ss[i]? = some (ss[i]'hil) := List.getElem?_eq_getElem _
    have hdrop : ss.drop i = ss[i]'hil :: ss.drop (i + 1) := List.drop_eq_getElem_cons hil
    generalize ss[i]'hil = s at hget hdrop
    rw [hdrop] at hAf
    obtain ⟨hfit, hAf⟩ := hAf
    obtain ⟨q, rfl, C⟩ := (OwnN.fr hS f0 fun _ _ h => h).rec stc_len (by omega) hget
    have c0 := C 0 (by omega)
    have c1 := C 1 (by omega)
    have c2 := C 2 (by omega)
    have c3 := C 3 (by omega)
    have ca : ∀ j, ((⟨q, 0, none⟩ : Addr).add (i * 4)).add j = ⟨q, i * 4 + j, none⟩ := fun j => by rw [add_mk, add_mk, Nat.zero_add]
    simp only [BIf_true, NN_mk, Int.toNat_natCast]
    refine ⟨by omega, LoadT_int.2 ⟨_, by rw [ca]; exact c0, LoadT_int.2 ⟨_, by rw [ca]; exact c1, LoadT_int.2 ⟨_, by rw [ca]; exact c2, LoadT_slice.2 ⟨_, _, _, by rw [ca]; exact c3, ?_⟩⟩⟩⟩⟩
    refine new_intro fun m wb eb bb fb zb => ?_
    refine store_intro (i := 0) bb (by simp) rfl fun wc bc fc zc => ?_
    refine store_intro (i := 1) bc (by simp) rfl fun wd bd fd zd => ?_
    refine store_intro (i := 2) bd (by simp) rfl fun we be fe ze => ?_
    refine store_intro (i := 3) be (by simp) rfl fun wf bf ff zf => ?_
    refine load_int (i := 0) bf rfl (load_int (i := 1) bf rfl (load_int (i := 2) bf rfl (load_slice (i := 3) bf rfl ?_)))
    have fbf : Fr (fun x => x = m) wb wf := ((fc.trans fd fun x e => .inl e).trans fe fun x e => .inl e).trans ff fun x e => .inl e
    have faf : Fr (fun _ => False) wa wf := fb.trans fbf fun x e => .inr (by have : x = m := e; omega)
    have Hf : FMx wf w.heap.size n5 Q mi := by
      obtain ⟨a1, a2, a3, a4, a5, a6, a7, H⟩ := H
      exact ⟨a1, a2, a3, a4, a5, a6, a7, H.fr0 faf⟩
    have Of := OwnN.fr O faf fun _ _ h => h
    have h0f := (f0.trans faf fun _ h => h.elim)
    refine F14_call (F14_spec Hf hfit h0f.size fun Q' mi' sd wg hst Hg fg => back_fd ?_)
    have Og : Saids wg op i oc out := OwnN.fr Of fg fun b hb hs => by
      obtain ⟨us, hu⟩ := Of.blk hb
      obtain ⟨_, t, us', hu', ht⟩ := hs
      have := (hu.unique hu').1
      subst this
      revert ht; decide
    have f0g : Fr (fun _ => False) w wg := h0f.trans fg fun b h => .inr h.1
    refine new_intro fun n27 wh eh bh fh zh => ?_
    refine store_intro (i := 0) bh (by simp) rfl fun w10 b10 f10 z10 => ?_
    refine store_intro (i := 1) b10 (by simp) rfl fun w11 b11 f11 z11 => ?_
    refine store_intro (i := 2) b11 (by simp) rfl fun w12 b12 f12 z12 => ?_
    refine store_intro (i := 3) b12 (by simp) rfl fun w13 b13 f13 z13 => ?_
    refine store_intro (i := 4) b13 (by simp) rfl fun w14 b14 f14 z14 => ?_
    refine drw_intro fun w15 f15 z15 => ?_
    have b15 := b14.fr f15 id
    have fh14 : Fr (fun x => x = n27) wh w14 := (((f10.trans f11 fun x e => .inl e).trans f12 fun x e => .inl e).trans f13 fun x e => .inl e).trans f14 fun x e => .inl e
    have fg15 : Fr (fun _ => False) wg w15 := (fh.trans fh14 fun x e => .inr (by have : x = n27 := e; omega)).trans f15 fun _ h => h.elim
    obtain ⟨hb, ep, ec, es, D, pr, mm, Hg⟩ := Hg
    have H15 := Hg.fr0 fg15
    have O15 := OwnN.fr Og fg15 fun _ _ h => h
    obtain ⟨st, R, Ch, h, Hp⟩ := id H15.hp
    have hD : D.length ≤ 900 := by
      have hn := nodup_fm H15.un
      have := Nat.le_trans (len_le_of H15.hp.dn fun x hx => (by rw [List.mem_filterMap]; exact ⟨some x, (H15.al x).1 hx, rfl⟩ : x ∈ es.filterMap id)) (List.length_filterMap_le _ _)
      have := H15.ln; omega
    refine load_ptr (i := 0) H15.hd rfl (load_ptr (i := 0) H15.hd rfl ?_)
    have ch : w15.cell? ⟨n5, 0, none⟩ = some (.pointer (some ⟨hb, 0, none⟩)) := by rw [H15.hd.cell]; rfl
    refine F15_call (F15_spec Hp.hd (back_u64 ⟨ch, ?_⟩))
    refine F16_call (F16_spec Hp.hd (back_bool ⟨ch, ?_⟩))
    rw [wrap_i64 (by omega) (by omega)]
    refine store_intro (i := 3) b15 (by simp) rfl fun w16 b16 f16 z16 => ?_
    have hne : n5 ≠ n27 := fun e => by
      rw [e] at H15
      exact absurd (H15.hd.unique b15).1 (by decide)
    refine ⟨by rw [(H15.hd.fr f16 hne).cell]; rfl, ?_⟩
    refine store_intro (i := 4) b16 (by simp) rfl fun w17 b17 f17 z17 => ?_
    refine load_bool (i := 0) b17 rfl (load_int (i := 1) b17 rfl (load_int (i := 2) b17 rfl (load_int (i := 3) b17 rfl (load_bool (i := 4) b17 rfl ?_))))
    have f1517 : Fr (fun x => x = n27) w15 w17 := f16.trans f17 fun x e => .inl e
    obtain ⟨ii, g1, g2, g3, g4⟩ := inf34
    refine build_intro und31 g1 g2 (by omega) (by omega) (fill31 _ _ _ _ _ ii g3) fun w18 f18 b18 z18 => ?_
    have hn27 : w.heap.size ≤ n27 := by have := f0g.size; omega
    have hO27 : ∀ b, bl op b → ¬ b = n27 := fun b hb e => by
      have h1 := Og.lt hb
      omega
    have O18 : Saids w18 op i oc out := (O15.fr f1517 hO27).fr f18 fun _ _ h => h
    have hz : sd.z = D.length := by
      rw [Hg.cnt]
      cases hst <;> rfl
    have hsd : ([.bool true, .int .i64 (sd.e : Nat), .int .i64 sd.p, .int .i64 (D.length : Nat), .bool (decide (D.length = 0))] : List Value) = [sd].flatMap sdc := by
      rw [← hz]; rfl
    rw [hsd] at b18
    refine append_own (P := Try.prog) und31 g1 g2 g3 (by decide) rfl g4 O18 (news := [sd].flatMap sdc) (m := 1) rfl (fun j u hj => ?_) (fm_one sdc_one _) (by omega) fun p' c' w' f' o' hp' => ?_
    · rw [add_mk, Nat.zero_add, b18.cell]; exact hj
    rw [← List.flatMap_append] at o'
    rw [add_one (by omega)]
    have f018 : Fr (fun _ => False) w w18 := ((f0g.trans fg15 fun _ h => h.elim).trans f1517 fun x e => .inr (by have : x = n27 := e; omega)).trans f18 fun _ h => h.elim
    refine ⟨⟨(by trivial), (by trivial), (by trivial), (by trivial), i + 1, Q', mi', out ++ [sd], rfl, by omega, (by trivial), by simp [hol], ?_, hAf _ _ _ hst, o', fun b hb => (hp' b hb).elim (hO b) fun h => by have := f018.size; omega, f018.trans f' fun b hb => .inr (hO b hb)⟩, by omega⟩
    refine ⟨hb, ep, ec, es, D, pr, mm, ?_⟩
    refine ((H15.fr f1517 fun b e => .inr ⟨34, _, (show b = n27 from e) ▸ b15, by decide, by decide, by decide, by decide⟩).fr0 f18).fr f' fun b hb => ?_
    obtain ⟨us, hu⟩ := O18.blk hb
    exact .inr ⟨34, us, hu, by decide, by decide, by decide, by decide⟩
  · have : i = ss.length := by omega
    subst this
    rw [decide_eq_false (by omega)]
    simp only [BIf_false]
    rw [List.drop_length] at hAf
    exact hk op oc wa Q mi out hAf hol O hO f0
end Go.Proofs.Ytlbeelgfpbkdbaa.E
