/-
  Range trees of skip lists: steps that are being built (rtSteps).
-/
import Derived.Test.YtfokodpnoiilbaaGreatQ9
import Derived.Test.YtfokodpnoiilbaaGreatRJ
namespace Go.Proofs.YtfokodpnoiilbaaGreat.E
open Go
set_option linter.unusedSimpArgs false
set_option linter.unusedVariables false
set_option maxRecDepth 100000
set_option maxHeartbeats 8000000

structure EnD where
  op : Int
  dp : Option Addr
  dots : List PD
  dc : Nat
  lp : Option Addr
  low : List Int
  lc : Nat
  hp : Option Addr
  high : List Int
  hc : Nat
  most : Nat
def EnD.cl (e : EnD) : List Value := clsD e.op 0 e.dp e.dots.length e.dc e.lp e.low.length e.lc e.hp e.high.length e.hc 0 0 0 ((e.most : Nat) : Int)
def EnD.st (e : EnD) : DStp := ⟨e.op, e.dots, e.low, e.high, e.most⟩
def flatD (es : List EnD) : List Value := es.flatMap EnD.cl
theorem flatD_len : ∀ es : List EnD, (flatD es).length = es.length * 9
  | [] => rfl
  | e :: es => by
    have := flatD_len es
    show (e.cl ++ flatD es).length = _
    rw [List.length_append, this, show e.cl.length = 9 from rfl, List.length_cons]; omega
theorem flatD_get : ∀ (es : List EnD) (i j : Nat) (e : EnD), es[i]? = some e → j < 9 → (flatD es)[i * 9 + j]? = e.cl[j]?
  | [], i, j, e, h, _ => by simp at h
  | a :: es, 0, j, e, h, hj => by
    simp at h; subst h
    show (a.cl ++ flatD es)[0 * 9 + j]? = _
    rw [show 0 * 9 + j = j by omega, List.getElem?_append_left (by show j < 9; exact hj)]
  | a :: es, i + 1, j, e, h, hj => by
    show (a.cl ++ flatD es)[(i + 1) * 9 + j]? = _
    rw [List.getElem?_append_right (by show 9 ≤ _; omega), show a.cl.length = 9 from rfl, show (i + 1) * 9 + j - 9 = i * 9 + j by omega]
    exact flatD_get es i j e (by simpa using h) hj
theorem flatD_app (a b : List EnD) : flatD (a ++ b) = flatD a ++ flatD b := List.flatMap_append ..
theorem flatD_one (es : List EnD) : ∀ u ∈ flatD es, u.oneCell' = true := fun u hu => by
  obtain ⟨e, _, he⟩ := List.mem_flatMap.1 hu
  simp only [EnD.cl, clsD, List.mem_cons, List.not_mem_nil, or_false] at he
  rcases he with rfl | rfl | rfl | rfl | rfl | rfl | rfl | rfl | rfl <;> rfl
/-- Steps that are being built. -/
structure StD (w : World) (base : Nat) (p : Option Addr) (l c : Nat) (es : List EnD) : Prop where
  own : OwnN w 31 9 p l c (flatD es)
  len : l = es.length
  bp : ∀ b, bl p b → base ≤ b
  en : ∀ e ∈ es, SlO (DoK 42) w e.dp e.dots.length e.dc e.dots ∧ Sl In64K w e.lp e.low ∧ Sl In64K w e.hp e.high ∧ ∀ b, bl e.dp b → base ≤ b
  dj : es.Pairwise fun a b => ∀ x, bl a.dp x → ¬ bl b.dp x
theorem StD.fr0 {w w' : World} {base : Nat} {p : Option Addr} {l c : Nat} {es : List EnD} (h : StD w base p l c es) (f : Fr (fun _ => False) w w') : StD w' base p l c es :=
  ⟨h.own.fr f (fun _ _ => id), h.len, h.bp, fun e he => ⟨(h.en e he).1.fr0 f, (h.en e he).2.1.fr0 f, (h.en e he).2.2.1.fr0 f, (h.en e he).2.2.2⟩, h.dj⟩
theorem StD.sl {w : World} {base : Nat} {p : Option Addr} {l c : Nat} {es : List EnD} (h : StD w base p l c es) : Sl DStK w p (es.map EnD.st) := by
  rcases h.own.2 with ⟨_, h0, _⟩ | ⟨q, rest, rfl, hB, _⟩
  · left
    have : es = [] := List.length_eq_zero_iff.1 (by rw [← h.len]; exact h0)
    rw [this]; rfl
  · refine .inr ⟨q, 0, _, rfl, hB, fun i s hs => ?_⟩
    rw [List.getElem?_map] at hs
    obtain ⟨e, he, rfl⟩ := Option.map_eq_some_iff.1 hs
    obtain ⟨h1, h2, h3, _⟩ := h.en e (List.mem_of_getElem? he)
    refine DStK.loc (fun j hj => ?_) (dst_row (s := e.st) (on := 0) (p := e.dp) (c := e.dc) (q := e.lp) (d := e.lc) (r := e.hp) (b := e.hc) (dim := 0) (idx := 0) (num := 0) h1.sl h2 h3)
    have hj : j < 9 := hj
    have hi := (List.getElem?_eq_some_iff.1 he).1
    show e.cl[j]? = (flatD es ++ rest)[0 + i * 9 + j]?
    rw [List.getElem?_append_left (by rw [flatD_len]; omega), show 0 + i * 9 + j = i * 9 + j by omega, flatD_get es i j e he hj]
theorem fill49b (o : Int) (p : Option Addr) (l c : Nat) (p2 : Option Addr) (l2 c2 : Nat) (p3 : Option Addr) (l3 c3 : Nat) (m : Int) : ∀ i : TypeInfo, i.size = 9 → Instr.fill (fun j => some (j * i.size, i.size)) ((Array.range (1 * i.size)).map (z49.cells[· % z49.cells.size]!)) [(0, .agg #[.int .i64 o, .int .i64 0, .slice p l c, .slice p2 l2 c2, .slice p3 l3 c3, .int .u64 0, .int .i64 0, .int .i64 0, .int .i64 m])] = some (clsD o 0 p l c p2 l2 c2 p3 l3 c3 0 0 0 m).toArray := by
  intro i h; rw [h]; kernel_rfl
section
variable {w : World} {base : Nat} {p : Option Addr} {l c : Nat} {es : List EnD}
/-- A further step. -/
theorem StD.snoc {f : Option Addr → Nat → Nat → W} {ty : TypeId} {cs : Array Bool} {e : EnD} (h : StD w base p l c es) (hb : base ≤ w.heap.size)
    (h1 : SlO (DoK 42) w e.dp e.dots.length e.dc e.dots) (h2 : Sl In64K w e.lp e.low) (h3 : Sl In64K w e.hp e.high) (h4 : ∀ b, bl e.dp b → base ≤ b) (hdj : ∀ a ∈ es, ∀ x, bl a.dp x → ¬ bl e.dp x) (hl : l < 1000000)
    (hk : ∀ p' c' w', StD w' base p' (l + 1) c' (es ++ [e]) → Fr (fun b => bl p b) w w' → f p' (l + 1) c' w') :
    RawT Tryz.prog (Instr.buildSlice 23 1 [(0, .agg #[.int .i64 e.op, .int .i64 0, .slice e.dp e.dots.length e.dc, .slice e.lp e.low.length e.lc, .slice e.hp e.high.length e.hc, .int .u64 0, .int .i64 0, .int .i64 0, .int .i64 ((e.most : Nat) : Int)])].toArray) (.s (.one .slice)) (fun a m d => NextT Tryz.prog (builtin .append #[23, 23] ty cs [.slice p l c, .slice a m d].toArray) (.s (.one .slice)) f) w := by
  obtain ⟨i, g1, g2, g3, g4⟩ := inf49
  refine build_intro und57 g1 g2 (by omega) (by omega) (fill49b _ _ _ _ _ _ _ _ _ _ _ i g3) fun w1 f1 b1 z1 => ?_
  have h' := h.fr0 f1
  refine append_own (P := Tryz.prog) und57 g1 g2 g3 (by decide) rfl g4 h'.own (news := flatD [e]) (m := 1) (by rw [flatD_len]; rfl) (fun j u hu => ?_) (flatD_one _) (by omega) fun p' c' w2 f2 o2 hp2 => ?_
  · rw [add_mk, Nat.zero_add, b1.cell]
    exact hu
  · have hT : Tys (fun b => bl p b) w1 [31] := fun b u us hb hu => by
      obtain ⟨us', hu'⟩ := h'.own.blk hb
      rw [(hu.unique hu').1]; simp
    have hz1 := f1.size
    refine hk p' c' w2 ⟨?_, ?_, fun b hb' => ?_, fun e' he' => ?_, ?_⟩ ((f1.mono fun _ h => h.elim).trans f2 fun _ h => .inl h)
    · rw [flatD_app]; exact o2
    · rw [List.length_append, ← h.len]; rfl
    · rcases hp2 b hb' with h' | h'
      · exact h.bp b h'
      · omega
    · rcases List.mem_append.1 he' with he' | he'
      · obtain ⟨a1, a2, a3, a4⟩ := h'.en e' he'
        exact ⟨a1.fr f2 hT (by decide), a2.fr f2 hT (by decide), a3.fr f2 hT (by decide), a4⟩
      · rw [List.mem_singleton] at he'; subst he'
        exact ⟨(h1.fr0 f1).fr f2 hT (by decide), (h2.fr0 f1).fr f2 hT (by decide), (h3.fr0 f1).fr f2 hT (by decide), h4⟩
    · exact List.pairwise_append.2 ⟨h.dj, List.pairwise_singleton _ _, fun a ha b hb => by rw [List.mem_singleton] at hb; subst hb; exact hdj a ha⟩
/-- The last step gets a further entry. -/
theorem StD.turn {pre : List EnD} {e : EnD} {q : Nat} {w1 w2 : World} {p' : Option Addr} {c' : Nat} {x : PD} (h : StD w base (some ⟨q, 0, none⟩) l c (pre ++ [e])) (hb : base ≤ w.heap.size)
    (f1 : Fr (fun b => bl e.dp b) w w1) (O : SlO (DoK 42) w1 p' (e.dots.length + 1) c' (e.dots ++ [x])) (hp : ∀ b, bl p' b → bl e.dp b ∨ w.heap.size ≤ b)
    (hs : ∀ us, Blk w1 q 31 us → Blk w2 q 31 (us.set (pre.length * 9 + 2) (.slice p' (e.dots.length + 1) c'))) (f2 : Fr (fun b => b = q) w1 w2) :
    StD w2 base (some ⟨q, 0, none⟩) l c (pre ++ [{ e with dp := p', dots := e.dots ++ [x], dc := c' }]) := by
  obtain ⟨e1, e2, e3, e4⟩ := h.en e (List.mem_append_right _ (List.mem_singleton.2 rfl))
  have T1 : Tys (fun b => bl e.dp b) w [42] := e1.ty
  have hq1 : ¬ bl e.dp q := fun hb => by
    obtain ⟨us, hu⟩ := h.own.blk (b := q) ⟨_, rfl, rfl⟩
    have := T1 q _ _ hb hu; simp at this
  rcases h.own.2 with ⟨h0, _⟩ | ⟨q', rest, h0, hB, hc, hlc, hm⟩
  · cases h0
  · cases h0
    have hB1 := hB.fr f1 hq1
    have hset : (flatD (pre ++ [e]) ++ rest).set (pre.length * 9 + 2) (.slice p' (e.dots.length + 1) c') = flatD (pre ++ [{ e with dp := p', dots := e.dots ++ [x], dc := c' }]) ++ rest := by
      rw [flatD_app, flatD_app, List.append_assoc, List.append_assoc, List.set_append_right _ _ (by rw [flatD_len]; omega), flatD_len, Nat.add_sub_cancel_left]
      congr 1
      show (e.cl ++ [] ++ rest).set 2 _ = (EnD.cl _ ++ [] ++ rest)
      unfold EnD.cl clsD
      simp
    have hB2 := hs _ hB1
    rw [hset] at hB2
    have T2 : Tys (fun b => b = q) w1 [31] := Tys.one hB1
    have hlen : (flatD (pre ++ [{ e with dp := p', dots := e.dots ++ [x], dc := c' }])).length = (flatD (pre ++ [e])).length := by rw [flatD_len, flatD_len]; simp
    refine ⟨⟨by rw [hlen]; exact h.own.1, .inr ⟨q, rest, rfl, hB2, by rw [List.length_append, hlen, ← List.length_append]; exact hc, hlc, hm⟩⟩, by rw [h.len]; simp, h.bp, fun e' he' => ?_, ?_⟩
    · rcases List.mem_append.1 he' with he' | he'
      · obtain ⟨a1, a2, a3, a4⟩ := h.en e' (List.mem_append_left _ he')
        have hd : ∀ b, bl e'.dp b → ¬ bl e.dp b := fun b hb1 hb2 => (List.pairwise_append.1 h.dj).2.2 e' he' e (List.mem_singleton.2 rfl) b hb1 hb2
        exact ⟨(a1.fr' f1 hd (fun b u us hb hu e => by have := T1 b u us hb hu; rw [List.mem_singleton] at this; rw [this] at e; simp [DoK] at e)).fr f2 T2 (by decide), (a2.fr f1 T1 (by decide)).fr f2 T2 (by decide), (a3.fr f1 T1 (by decide)).fr f2 T2 (by decide), a4⟩
      · rw [List.mem_singleton] at he'; subst he'
        refine ⟨?_, (e2.fr f1 T1 (by decide)).fr f2 T2 (by decide), (e3.fr f1 T1 (by decide)).fr f2 T2 (by decide), fun b hb' => ?_⟩
        · have := O.fr f2 T2 (by decide)
          show SlO (DoK 42) w2 p' (e.dots ++ [x]).length c' (e.dots ++ [x])
          rw [List.length_append]; exact this
        · rcases hp b hb' with h' | h'
          · exact e4 b h'
          · omega
    · obtain ⟨d1, _, d3⟩ := List.pairwise_append.1 h.dj
      refine List.pairwise_append.2 ⟨d1, List.pairwise_singleton _ _, fun a ha b hb' => ?_⟩
      rw [List.mem_singleton] at hb'; subst hb'
      intro y hy hy'
      rcases hp y hy' with h' | h'
      · exact d3 a ha e (List.mem_singleton.2 rfl) y hy h'
      · have := (h.en a (List.mem_append_left _ ha)).1.lt hy; omega
end
end Go.Proofs.YtfokodpnoiilbaaGreat.E
