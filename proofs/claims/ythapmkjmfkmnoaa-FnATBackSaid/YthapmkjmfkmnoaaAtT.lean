/-
  Interval trees: a step, a run.
-/
import Derived.Test.YthapmkjmfkmnoaaAtS
namespace Go.Proofs.Ythapmkjmfkmnoaa.E
open Go
set_option linter.unusedSimpArgs false
set_option linter.unusedVariables false
set_option maxRecDepth 100000
set_option maxHeartbeats 8000000

/-! ## Plain: what a run does -/
def stepL (M : List Sp) (s : Stp) : List Sp := if s.op = 1 then insAll M s.spans else if s.op = 2 then remAll M s.spans else M
def stepA (m : Nat) (M : List Sp) (s : Stp) : Ans := if s.op = 3 then ⟨match s.spans with | [] => [] | y :: _ => M.filter (ovP m y), 0⟩ else if s.op = 4 then ⟨[], M.length⟩ else ⟨[], 0⟩
def runL (M : List Sp) (ss : List Stp) : List Sp := ss.foldl stepL M
def runA (m : Nat) : List Sp → List Stp → List Ans
  | _, [] => []
  | M, s :: ss => stepA m M s :: runA m (stepL M s) ss
/-- What a step asks of the intervals that are there. -/
def okS (M : List Sp) (s : Stp) : Prop := (∀ x ∈ s.spans, Shrt x) ∧ s.spans.length < 1000 ∧ M.length < 500 ∧ (M.map Sp.id).Nodup ∧
  ((s.op = 1 ∧ ((M ++ s.spans).map Sp.id).Nodup) ∨ (s.op = 2 ∧ (s.spans.map Sp.id).Nodup ∧ ∀ x ∈ s.spans, x ∈ M) ∨ (s.op = 3 ∧ s.spans ≠ []) ∨ s.op = 4)
def okR : List Sp → List Stp → Prop
  | _, [] => True
  | M, s :: ss => okS M s ∧ okR (stepL M s) ss
theorem runL_snoc (M : List Sp) (ss : List Stp) (s : Stp) : runL M (ss ++ [s]) = stepL (runL M ss) s := by unfold runL; rw [List.foldl_append]; rfl
theorem runA_snoc (m : Nat) : ∀ (ss : List Stp) (M : List Sp) (s : Stp), runA m M (ss ++ [s]) = runA m M ss ++ [stepA m (runL M ss) s]
  | [], M, s => rfl
  | t :: ss, M, s => by
    show stepA m M t :: runA m (stepL M t) (ss ++ [s]) = stepA m M t :: runA m (stepL M t) ss ++ [stepA m (runL (stepL M t) ss) s]
    rw [runA_snoc m ss]; rfl
theorem runA_length (m : Nat) : ∀ (ss : List Stp) (M : List Sp), (runA m M ss).length = ss.length
  | [], _ => rfl
  | s :: ss, M => by show (runA m _ ss).length + 1 = _; rw [runA_length m ss]; rfl
theorem okR_get : ∀ {ss : List Stp} {M : List Sp} {i : Nat} {s : Stp}, okR M ss → ss[i]? = some s → okS (runL M (ss.take i)) s
  | [], M, i, s, _, h => by simp at h
  | t :: ss, M, 0, s, h, hs => by simp at hs; subst hs; exact h.1
  | t :: ss, M, i + 1, s, h, hs => okR_get (ss := ss) (M := stepL M t) h.2 (by simpa using hs)
section
variable {w : World} {k : Value → W} {base tb m : Nat} {M : List Sp}
theorem back_an {f : Option Addr → Nat → Nat → Int → W} {p : Option Addr} {l c : Nat} {n : Int} (h : f p l c n w) : Back (.s (.agg [.slice, (.int .u64)])) f (.returned (.agg #[.slice p l c, .int .u64 n])) w := ⟨((p, l, c), n, ()), rfl, h⟩
/-- The kept answer is returned. -/
theorem fin13 {n5 n6 b0 : Nat} {a : Ans} {vs : List Value} (hB : Blk w n5 41 vs) (hv : vs.length = 2) (h5 : b0 ≤ n5) (A : AnB w b0 n6 a) (hne : n5 ≠ n6)
    (hk : ∀ w' p c, SlO (SpK 30) w' p a.spans.length c a.spans → (∀ b, bl p b → b0 ≤ b) → FrT b0 [41, 30] w w' → k (.agg #[.slice p a.spans.length c, .int .u64 ((a.n : Nat) : Int)]) w') :
    (LoadT .slice ⟨n6, 0, none⟩ fun s10p s10l s10c =>
     LoadT (.int .u64) ⟨n6, 1, none⟩ fun x11 =>
     Store1 ⟨n5, 0, none⟩ (.slice s10p s10l s10c) <|
     Store1 ⟨n5, 1, none⟩ (.int .u64 x11) <|
     LoadT .slice ⟨n5, 0, none⟩ fun s12p s12l s12c =>
     LoadT (.int .u64) ⟨n5, 1, none⟩ fun x13 =>
     k (.agg #[.slice s12p s12l s12c, .int .u64 x13])) w := by
  obtain ⟨p, c, hA, hI, h1, h2⟩ := A
  obtain ⟨v0, v1, rfl⟩ : ∃ v0 v1, vs = [v0, v1] := by
    match vs, hv with
    | [v0, v1], _ => exact ⟨v0, v1, rfl⟩
  refine load_slice (i := 0) hA rfl (load_int (i := 1) hA rfl ?_)
  refine store_intro (i := 0) hB (by simp) rfl fun w1 b1 f1 z1 => ?_
  refine store_intro (i := 1) b1 (by simp) rfl fun w2 b2 f2 z2 => ?_
  have b2 : Blk w2 n5 41 [.slice p a.spans.length c, .int .u64 ((a.n : Nat) : Int)] := b2
  refine load_slice (i := 0) b2 rfl (load_int (i := 1) b2 rfl ?_)
  have f : Fr (fun x => x = n5) w w2 := f1.trans f2 fun _ h => .inl h
  have T : Tys (fun x => x = n5) w [41] := Tys.one hB
  refine hk w2 p c (hI.fr f T (by simp [SpK])) h2 ⟨_, f, fun b u us hb hu => ?_, fun b hb => ?_⟩
  · have := T b u us hb hu
    simp at this; rw [this]; decide
  · have hb : b = n5 := hb; omega
/-- The answers of a query are kept. -/
theorem F13_loop {n5 n6 b0 : Nat} {p : Option Addr} {c : Nat} {xs : List Spn} {vs : List Value} (hB : Blk w n5 41 vs) (hv : vs.length = 2) (h5 : b0 ≤ n5) (A : AnB w b0 n6 ⟨[], 0⟩) (hne : n5 ≠ n6) (O : Own w 57 p xs.length c (xs.map Spn.v)) (hx : ∀ x ∈ xs, SpOk w x) (hl : xs.length < 1000000)
    (hk : ∀ w' p c, SlO (SpK 30) w' p (xs.map Spn.pl).length c (xs.map Spn.pl) → (∀ b, bl p b → b0 ≤ b) → FrT b0 [41, 30] w w' → k (.agg #[.slice p (xs.map Spn.pl).length c, .int .u64 ((0 : Nat) : Int)]) w') :
    Loop [.addr, .addr, .any, .slice, (.int .i64), (.int .i64)] (F13_L1 k) ⟨n5, 0, none⟩ ⟨n6, 0, none⟩ (.func (.func 15) #[] #[.pointer (some ⟨n6, 0, none⟩)]) p xs.length c ((xs.length : Nat) : Int) 0 w := by
  refine F13_L1_rule (I := fun a5 a6 kp p' l' c' n i w' => a5 = ⟨n5, 0, none⟩ ∧ a6 = ⟨n6, 0, none⟩ ∧ kp = .func (.func 15) #[] #[.pointer (some ⟨n6, 0, none⟩)] ∧ p' = p ∧ l' = xs.length ∧ c' = c ∧ n = ((xs.length : Nat) : Int) ∧ ∃ t : Nat, i = ((t : Nat) : Int) ∧ t ≤ xs.length ∧ AnB w' b0 n6 ⟨(xs.take t).map Spn.pl, 0⟩ ∧ Blk w' n5 41 vs ∧ FrT b0 [41, 30] w w')
    (μ := fun a5 a6 kp p' l' c' n i w' => xs.length - i.toNat) ?_ ⟨rfl, rfl, rfl, rfl, rfl, rfl, rfl, 0, rfl, Nat.zero_le _, A, hB, FrT.refl _ _ _⟩
  rintro _ _ _ p' l' c' n i w1 ⟨rfl, rfl, rfl, rfl, e1, e2, rfl, t, rfl, ht, A1, B1, f1⟩
  obtain rfl := e2.symm
  unfold F13_L1
  rw [e1]
  by_cases hlt : t < xs.length
  · rw [decide_eq_true (show ((t : Nat) : Int) < ((xs.length : Nat) : Int) by omega), BIf_true]
    have hx' : xs[t]? = some xs[t] := List.getElem?_eq_getElem hlt
    have hmem := List.getElem_mem hlt
    generalize xs[t] = x at hx' hmem
    have O1 := O.frT f1 (by decide)
    obtain ⟨q, rest, rfl, hB', _, _⟩ := O1.get (by omega)
    rw [NN_mk, Req_iff, Int.toNat_natCast, add_mk, Nat.zero_add]
    refine ⟨⟨by omega, by omega⟩, load_any (v := x.v) hB' (by rw [List.getElem?_append_left (by simpa using hlt), List.getElem?_map, hx']; rfl) ?_⟩
    refine NextT_enter (callV_enter ent15) (F15_calls (F15_spec A1 ((hx x hmem).frT f1 (by decide)) (by simp; omega) fun w2 A2 f2 o2 => back0 ?_))
    rw [addI_i64 (by omega) (by omega)]
    have B2 : Blk w2 n5 41 vs := o2 n5 vs hne B1
    refine ⟨⟨rfl, rfl, rfl, rfl, rfl, rfl, rfl, t + 1, by omega, hlt, ?_, B2, f1.trans f2⟩, ?_⟩
    · rw [take_snoc hx', List.map_append]; exact A2
    · show xs.length - (((t : Nat) : Int) + 1).toNat < xs.length - ((t : Nat) : Int).toNat
      omega
  · rw [decide_eq_false (show ¬ ((t : Nat) : Int) < ((xs.length : Nat) : Int) by omega), BIf_false]
    have : t = xs.length := by omega
    subst this
    rw [List.take_length] at A1
    simp only [add_mk, Nat.zero_add]
    exact fin13 B1 hv h5 A1 hne fun w' p c h1 h2 h3 => hk w' p c h1 h2 (f1.trans h3)
theorem FrT.new {base : Nat} {ts : List TypeId} {w w1 w2 : World} {S : Nat → Prop} (f : FrT base ts w w1) (g : Fr S w1 w2) (hS : ∀ b, S b → w.heap.size ≤ b) : FrT base ts w w2 := by
  obtain ⟨S0, f0, T, B⟩ := f
  exact ⟨S0, f0.trans g fun b hb => .inr (hS b hb), T, B⟩
/-- A step. -/
theorem F13_spec {s : Stp} {p : Option Addr} {c : Nat} (h : TrB w base tb m M) (hbase : base ≤ w.heap.size) (hS : Sl (SpK 30) w p s.spans) (ok : okS M s) (hm : 1 ≤ m) (hm9 : m < 100)
    (hk : ∀ w' p' c', TrB w' base tb m (stepL M s) → SlO (SpK 30) w' p' (stepA m M s).spans.length c' (stepA m M s).spans → (∀ b, bl p' b → w.heap.size ≤ b) → FrT base [71, 74] w w' → k (.agg #[.slice p' (stepA m M s).spans.length c', .int .u64 (((stepA m M s).n : Nat) : Int)]) w') :
    F13 k (.iface 54 (.pointer (ta tb))) s.op p s.spans.length c w := by
  obtain ⟨hsh, hsl, hMl, hnd, hops⟩ := ok
  unfold F13
  refine new_intro fun n4 w1 e1 b1 f1 z1 => new_intro fun n5 w2 e2 b2 f2 z2 => new_intro fun n6 w3 e3 b3 f3 z3 => ?_
  have b1 := (b1.fr f2 id).fr f3 id
  have b2 := b2.fr f3 id
  have f03 : Fr (fun _ => False) w w3 := (f1.trans f2 fun _ h => h.elim).trans f3 fun _ h => h.elim
  have h3 := h.fr0 f03
  have hS3 := hS.fr0 f03
  have A3 : AnB w3 w.heap.size n6 ⟨[], 0⟩ := ⟨none, 0, b3, SlO.nil _ _, by omega, (fun b ⟨_, h, _⟩ => by cases h)⟩
  have hne : n5 ≠ n6 := by omega
  have z03 := f03.size
  refine load_int (i := 0) b1 rfl ?_
  -- the end: an answer that is kept
  have fin : ∀ (wz : World) (a : Ans), TrB wz base tb m (stepL M s) → Blk wz n5 41 [.slice none 0 0, .int .u64 0] → AnB wz w.heap.size n6 a → a = stepA m M s → FrT base [71, 74] w wz →
      (LoadT .slice ⟨n6, 0, none⟩ fun s10p s10l s10c =>
       LoadT (.int .u64) ⟨n6, 1, none⟩ fun x11 =>
       Store1 ⟨n5, 0, none⟩ (.slice s10p s10l s10c) <|
       Store1 ⟨n5, 1, none⟩ (.int .u64 x11) <|
       LoadT .slice ⟨n5, 0, none⟩ fun s12p s12l s12c =>
       LoadT (.int .u64) ⟨n5, 1, none⟩ fun x13 =>
       k (.agg #[.slice s12p s12l s12c, .int .u64 x13])) wz := fun wz a hz bz Az ea fz => by
    subst ea
    refine fin13 bz rfl (by omega) Az hne fun w' p' c' g1 g2 g3 => hk w' p' c' (hz.frT g3 (by decide)) g1 g2 ?_
    obtain ⟨S, g, T, B⟩ := g3
    exact fz.new g B
  rcases hops with ⟨o1, hn1⟩ | ⟨o2, hd, hin⟩ | ⟨o3, hne3⟩ | o4
  · have eL : stepL M s = insAll M s.spans := if_pos o1
    have eA : stepA m M s = ⟨[], 0⟩ := by unfold stepA; rw [if_neg (by omega), if_neg (by omega)]
    rw [show (s.op == 1) = true by rw [o1]; rfl, BIf_true]
    refine drw_intro fun w4 f4 z4 => ?_
    have b14 := b1.fr f4 id
    refine load_slice (i := 1) b14 rfl (mo_add ?_)
    refine F16_call (F16_spec (hS3.fr0 f4) hsh (by omega) fun w5 p5 c5 ys O5 hys ok5 f5 => back_slice ?_)
    have b15 := b14.fr f5 id
    have f05 := (f03.trans f4 fun _ h => h.elim).trans f5 fun _ h => h.elim
    have z05 := f05.size
    have hyl : s.spans.length = ys.length := by rw [← hys, List.length_map]
    rw [hyl] at O5 ⊢
    refine NextT_enter (m_add _ _ _ _ w5) (F34_calls (F34_spec (h.fr0 f05) (by omega) O5 ok5 (by rw [hys]; exact hn1) (by omega) fun w6 h6 f6 => back0 ?_))
    have b16 := blk_frT b15 f6 (by decide)
    refine chk (i := 1) b16 (by rw [← hyl]; rfl) ?_
    have b26 := blk_frT ((b2.fr f4 id).fr f5 id) f6 (by decide)
    rw [hys] at h6
    exact fin w6 ⟨[], 0⟩ (by rw [eL]; exact h6) b26 (((A3.fr0 f4).fr0 f5).frT f6 (by decide)) eA.symm ((FrT.of0 f05).trans f6)
  · have eL : stepL M s = remAll M s.spans := by unfold stepL; rw [if_neg (by omega), if_pos o2]
    have eA : stepA m M s = ⟨[], 0⟩ := by unfold stepA; rw [if_neg (by omega), if_neg (by omega)]
    rw [show (s.op == 1) = false from beq_eq_false_iff_ne.2 (by omega), BIf_false, show (s.op == 2) = true by rw [o2]; rfl, BIf_true]
    refine drw_intro fun w4 f4 z4 => ?_
    have b14 := b1.fr f4 id
    refine load_slice (i := 1) b14 rfl (mo_del ?_)
    refine F16_call (F16_spec (hS3.fr0 f4) hsh (by omega) fun w5 p5 c5 ys O5 hys ok5 f5 => back_slice ?_)
    have b15 := b14.fr f5 id
    have f05 := (f03.trans f4 fun _ h => h.elim).trans f5 fun _ h => h.elim
    have z05 := f05.size
    have hyl : s.spans.length = ys.length := by rw [← hys, List.length_map]
    rw [hyl] at O5 ⊢
    refine NextT_enter (m_del _ _ _ _ w5) (F35_calls (F35_spec (h.fr0 f05) (by omega) O5 ok5 hnd (by have := hd; rw [← hys, List.map_map] at this; exact this) (fun y hy => hin y.pl (by rw [← hys]; exact List.mem_map.2 ⟨y, hy, rfl⟩)) (by omega) (by omega) fun w6 h6 f6 => back0 ?_))
    have b16 := blk_frT b15 f6 (by decide)
    refine chk (i := 1) b16 (by rw [← hyl]; rfl) ?_
    have b26 := blk_frT ((b2.fr f4 id).fr f5 id) f6 (by decide)
    rw [hys] at h6
    exact fin w6 ⟨[], 0⟩ (by rw [eL]; exact h6) b26 (((A3.fr0 f4).fr0 f5).frT f6 (by decide)) eA.symm ((FrT.of0 f05).trans f6)
  · have eL : stepL M s = M := by unfold stepL; rw [if_neg (by omega), if_neg (by omega)]
    rw [show (s.op == 1) = false from beq_eq_false_iff_ne.2 (by omega), BIf_false, show (s.op == 2) = false from beq_eq_false_iff_ne.2 (by omega), BIf_false, show (s.op == 3) = true by rw [o3]; rfl, BIf_true]
    refine load_slice (i := 1) b1 rfl ?_
    cases hsp : s.spans with
    | nil => exact absurd hsp hne3
    | cons y rest =>
      have eA : stepA m M s = ⟨M.filter (ovP m y), 0⟩ := by unfold stepA; rw [if_pos o3, hsp]
      rw [← hsp]
      have hpos : 0 < s.spans.length := by rw [hsp]; simp
      rw [show (((s.spans.length : Nat) : Int) == 0) = false from beq_eq_false_iff_ne.2 (by omega), BIf_false]
      refine drw_intro fun w4 f4 z4 => ?_
      have b14 := b1.fr f4 id
      refine load_slice (i := 1) b14 rfl ?_
      have hx : s.spans[0]? = some y := by rw [hsp]; rfl
      obtain ⟨q, o, rfl, hP⟩ := (hS3.fr0 f4).get hx
      have hy := hsh y (by rw [hsp]; exact List.mem_cons_self)
      obtain ⟨y', rfl, oky, c0, c1, c2⟩ := spn_of hP hy.1 hy.2
      have c0 : w4.cell? ⟨q, o + 0, none⟩ = some (.slice y'.p y'.lows.length y'.c) := by rw [show o + 0 = o + 0 * (SpK 30).sz + 0 by simp]; exact c0
      have c1 : w4.cell? ⟨q, o + 1, none⟩ = some (.slice y'.q y'.highs.length y'.d) := by rw [show o + 1 = o + 0 * (SpK 30).sz + 1 by simp]; exact c1
      have c2 : w4.cell? ⟨q, o + 2, none⟩ = some (.int .u64 ((y'.id : Nat) : Int)) := by rw [show o + 2 = o + 0 * (SpK 30).sz + 2 by simp]; exact c2
      simp only [NN_mk, add_mk, Nat.zero_add]
      rw [show (0 : Int).toNat * 3 = 0 from rfl, Nat.add_zero]
      refine ⟨by omega, LoadT_slice.2 ⟨_, _, _, c0, LoadT_slice.2 ⟨_, _, _, c1, LoadT_int.2 ⟨_, c2, mo_que ?_⟩⟩⟩⟩
      have f04 := f03.trans f4 fun _ h => h.elim
      refine NextT_enter (m_que _ _ w4) (F37_calls (que1 (y := y') (h.fr0 f04) oky hm hm9 (by omega) fun w5 p5 c5 xs O5 hxs ok5 f5 => back_slice ?_))
      have f05 := f04.trans f5 fun _ h => h.elim
      refine ⟨(f5.cell (cell_lt c0) id).trans c0, by rw [f5.cell (cell_lt c1) id]; exact c1, by rw [f5.cell (cell_lt c2) id]; exact c2, ?_⟩
      refine chk (i := 1) (b14.fr f5 id) rfl ?_
      have h5 := h.fr0 f05
      have fl : (M.filter (ovP m y'.pl)).length ≤ M.length := List.length_filter_le _ _
      have hxl : xs.length = (M.filter (ovP m y'.pl)).length := by rw [← hxs, List.length_map]
      refine F13_loop ((b2.fr f4 id).fr f5 id) rfl (by omega) ((A3.fr0 f4).fr0 f5) hne O5 ok5 (by omega) fun w6 p6 c6 g1 g2 g3 => ?_
      have := hk w6 p6 c6 (by rw [eL]; exact h5.frT g3 (by decide)) (by rw [eA]; rw [hxs] at g1; exact g1) g2 (by
        obtain ⟨S, g, T, B⟩ := g3
        exact (FrT.of0 f05).new g B)
      rw [eA] at this
      rw [hxs]
      exact this
  · have eL : stepL M s = M := by unfold stepL; rw [if_neg (by omega), if_neg (by omega)]
    have eA : stepA m M s = ⟨[], M.length⟩ := by unfold stepA; rw [if_neg (by omega), if_pos o4]
    rw [show (s.op == 1) = false from beq_eq_false_iff_ne.2 (by omega), BIf_false, show (s.op == 2) = false from beq_eq_false_iff_ne.2 (by omega), BIf_false, show (s.op == 3) = false from beq_eq_false_iff_ne.2 (by omega), BIf_false, show (s.op == 4) = true by rw [o4]; rfl, BIf_true]
    refine NextT_enter (m_len _ w3) (F36_calls (len1 h3 (back_int ?_)))
    refine store_intro (i := 1) b3 (by simp) rfl fun w4 b4 f4 z4 => ?_
    have T4 : Tys (fun x => x = n6) w3 [41] := Tys.one b3
    have h4 := h3.fr f4 T4 (by decide)
    exact fin w4 ⟨[], M.length⟩ (by rw [eL]; exact h4) (b2.fr f4 fun e => hne e) ⟨none, 0, b4, SlO.nil _ _, by omega, (fun b ⟨_, h, _⟩ => by cases h)⟩ eA.symm ((FrT.of0 f03).new f4 fun b hb => by have hb : b = n6 := hb; omega)
/-- ATRun. -/
theorem F8_spec {ss : List Stp} {sp : Option Addr} {sc : Nat} (hm : 1 ≤ m) (hm9 : m < 100) (hS : Sl StK w sp ss) (ok : okR [] ss) (hl : ss.length < 1000)
    (hk : ∀ w' p c, Sl AnK w' p (runA m [] ss) → Fr (fun _ => False) w w' → k (.slice p ss.length c) w') : F8 k ((m : Nat) : Int) sp ss.length sc w := by
  obtain ⟨i41, g1, g2, g3, g4⟩ := inf41
  unfold F8
  refine F12_call (F12_spec fun w0 tb h0 f0 => back_any ?_)
  refine F8_L1_rule (I := fun t' op ol oc sp' sl' sc' n j w' => t' = .iface 54 (.pointer (ta tb)) ∧ sp' = sp ∧ sl' = ss.length ∧ sc' = sc ∧ n = ((ss.length : Nat) : Int) ∧ ∃ t : Nat, j = ((t : Nat) : Int) ∧ t ≤ ss.length ∧ ol = t ∧ TrB w' w.heap.size tb m (runL [] (ss.take t)) ∧
      SlO AnK w' op ol oc (runA m [] (ss.take t)) ∧ (∀ b, bl op b → w.heap.size ≤ b) ∧ Fr (fun _ => False) w w')
    (μ := fun t' op ol oc sp' sl' sc' n j w' => ss.length - j.toNat) ?_ ⟨rfl, rfl, rfl, rfl, rfl, 0, rfl, Nat.zero_le _, rfl, h0, SlO.nil _ _, (fun b ⟨_, h, _⟩ => by cases h), f0⟩
  rintro _ op ol oc _ sl' sc' n j w1 ⟨rfl, rfl, e1, e2, rfl, t, rfl, ht, rfl, h1, O1, hop, f1⟩
  obtain rfl := e2.symm
  unfold F8_L1
  rw [e1]
  have hz1 := f1.size
  by_cases hlt : ol < ss.length
  · rw [decide_eq_true (show ((ol : Nat) : Int) < ((ss.length : Nat) : Int) by omega), BIf_true]
    have hx : ss[ol]? = some ss[ol] := List.getElem?_eq_getElem hlt
    generalize ss[ol] = st at hx
    have okst := okR_get ok hx
    obtain ⟨q, o, rfl, ip, ic, c0, c1, hI⟩ := (hS.fr0 f1).get hx
    simp only [NN_mk, Int.toNat_natCast, add_mk]
    refine ⟨by omega, LoadT_int.2 ⟨_, c0, LoadT_slice.2 ⟨_, _, _, c1, ?_⟩⟩⟩
    refine new_intro fun n w2 e2 b2 f2 z2 => ?_
    refine store_intro (i := 0) b2 (by simp) rfl fun w3 b3 f3 z3 => ?_
    refine store_intro (i := 1) b3 (by simp) rfl fun w4 b4 f4 z4 => ?_
    have b4 : Blk w4 n 38 [.int .i64 st.op, .slice ip st.spans.length ic] := b4
    have f14 : Fr (fun _ => False) w1 w4 := by
      have : Fr (fun b => b = n) w1 w4 := ((f2.mono (S' := fun b => b = n) fun _ h => h.elim).trans f3 fun _ h => .inl h).trans f4 fun _ h => .inl h
      exact this.mono fun b h => .inr (by have h : b = n := h; omega)
    refine load_int (i := 0) b4 rfl (load_slice (i := 1) b4 rfl ?_)
    have z14 := f14.size
    refine F13_call (F13_spec (h1.fr0 f14) (by omega) (hI.fr0 f14) okst hm hm9 fun w5 p5 c5 h5 I5 hp5 f5 => back_an ?_)
    have hsnL : runL [] (ss.take (ol + 1)) = stepL (runL [] (ss.take ol)) st := by rw [take_snoc hx, runL_snoc]
    have hsnA : runA m [] (ss.take (ol + 1)) = runA m [] (ss.take ol) ++ [stepA m (runL [] (ss.take ol)) st] := by rw [take_snoc hx, runA_snoc]
    generalize hst : stepA m (runL [] (ss.take ol)) st = a at *
    refine build_intro und35 g1 g2 (by omega) (by omega) (fill41 _ _ _ _ i41 g3) fun w6 f6 b6 z6 => ?_
    obtain ⟨S5, g5, T5, B5⟩ := f5
    have O5 : SlO AnK w5 op ol oc (runA m [] (ss.take ol)) := (O1.fr0 f14).fr g5 T5 (by simp [AnK])
    have f05 : Fr (fun _ => False) w w5 := (f1.trans f14 fun _ h => h.elim).trans g5 fun b hb => .inr (B5 b hb)
    have z05 := f05.size
    have O6 := O5.fr0 f6
    have z5 := g5.size
    refine SlO.append (K := AnK) und35 g1 g2 g3 (by decide) rfl g4 (by simp [AnK]) O6 b6 (ys := [a]) (Rows.one ⟨p5, c5, rfl, rfl, I5.sl.fr0 f6⟩) rfl rfl (fun u hu => ?_) (by omega) fun p' c' w7 f7 O7 hp7 => ?_
    · simp only [List.mem_cons, List.not_mem_nil, or_false] at hu
      rcases hu with rfl | rfl <;> rfl
    rw [addI_i64 (by omega) (by omega)]
    have T7 : Tys (fun b => bl op b) w6 [41] := O6.ty
    refine ⟨⟨by trivial, by trivial, by trivial, by trivial, by trivial, ol + 1, by omega, hlt, by trivial, ?_, ?_, fun b hb => ?_, (f05.trans f6 fun _ h => h.elim).trans f7 fun b hb => .inr (hop b hb)⟩, ?_⟩
    · rw [hsnL]; exact (h5.fr0 f6).fr f7 T7 (by decide)
    · rw [hsnA]; exact O7
    · rcases hp7 b hb with h | h
      · exact hop b h
      · omega
    · show ss.length - (((ol : Nat) : Int) + 1).toNat < ss.length - ((ol : Nat) : Int).toNat
      omega
  · rw [decide_eq_false (show ¬ ((ol : Nat) : Int) < ((ss.length : Nat) : Int) by omega), BIf_false]
    have : ol = ss.length := by omega
    subst this
    rw [List.take_length] at O1
    exact hk w1 op oc O1.sl f1
end
end Go.Proofs.Ythapmkjmfkmnoaa.E
