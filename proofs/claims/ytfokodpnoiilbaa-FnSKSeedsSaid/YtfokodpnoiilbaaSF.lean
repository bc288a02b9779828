/-
  skOrder: the steps that moves are turned into.
-/
import Derived.Test.YtfokodpnoiilbaaSE
namespace Go.Proofs.Ytfokodpnoiilbaa.E
open Go
set_option linter.unusedSimpArgs false
set_option linter.unusedVariables false
set_option maxRecDepth 100000
set_option maxHeartbeats 8000000

structure En where
  op : Int
  most : Int
  items : List Itm
  pi : Option Addr
  ci : Nat
def En.st (e : En) : Stp := ⟨e.op, e.items, e.most⟩
def En.cl (e : En) : List Value := [.int .i64 e.op, .int .i64 0, .slice e.pi e.items.length e.ci, .int .u64 0, .int .i64 e.most]
def flat (es : List En) : List Value := es.flatMap En.cl
theorem flat_len : ∀ es : List En, (flat es).length = es.length * 5
  | [] => rfl
  | e :: es => by
    have := flat_len es
    show (e.cl ++ flat es).length = _
    rw [List.length_append, this, show e.cl.length = 5 from rfl, List.length_cons]; omega
theorem flat_get : ∀ (es : List En) (i j : Nat) (e : En), es[i]? = some e → j < 5 → (flat es)[i * 5 + j]? = e.cl[j]?
  | [], i, j, e, h, _ => by simp at h
  | a :: es, 0, j, e, h, hj => by
    simp at h; subst h
    show (a.cl ++ flat es)[0 * 5 + j]? = _
    rw [show 0 * 5 + j = j by omega, List.getElem?_append_left (by show j < 5; exact hj)]
  | a :: es, i + 1, j, e, h, hj => by
    show (a.cl ++ flat es)[(i + 1) * 5 + j]? = _
    rw [List.getElem?_append_right (by show 5 ≤ _; omega), show a.cl.length = 5 from rfl, show (i + 1) * 5 + j - 5 = i * 5 + j by omega]
    exact flat_get es i j e (by simpa using h) hj
theorem flat_app (a b : List En) : flat (a ++ b) = flat a ++ flat b := List.flatMap_append ..
theorem flat_one (es : List En) : ∀ u ∈ flat es, u.oneCell' = true := fun u hu => by
  obtain ⟨e, _, he⟩ := List.mem_flatMap.1 hu
  simp only [En.cl, List.mem_cons, List.not_mem_nil, or_false] at he
  rcases he with rfl | rfl | rfl | rfl | rfl <;> rfl
/-- Steps that are being built: the last one's items are one's own yet. -/
structure StM (w : World) (base : Nat) (p : Option Addr) (l c : Nat) (pre : List En) (la : Option En) (m0 : Nat) : Prop where
  own : OwnN w 39 5 p l c (flat (pre ++ la.toList))
  len : l = (pre ++ la.toList).length
  pr : ∀ e ∈ pre, Sl ItK w e.pi e.items ∧ ∀ b, bl e.pi b → b < m0
  mw : m0 ≤ w.heap.size
  bm : base ≤ m0
  bp : ∀ b, bl p b → base ≤ b
  las : ∀ e, la = some e → SlO ItK w e.pi e.items.length e.ci e.items ∧ ∀ b, bl e.pi b → m0 ≤ b
theorem StM.fr0 {w w' : World} {base : Nat} {p : Option Addr} {l c : Nat} {pre : List En} {la : Option En} {m0 : Nat} (h : StM w base p l c pre la m0) (f : Fr (fun _ => False) w w') : StM w' base p l c pre la m0 :=
  ⟨h.own.fr f (fun _ _ => id), h.len, fun e he => ⟨(h.pr e he).1.fr0 f, (h.pr e he).2⟩, Nat.le_trans h.mw f.size, h.bm, h.bp, fun e he => ⟨(h.las e he).1.fr0 f, (h.las e he).2⟩⟩
theorem SlO.lt' {w : World} {p : Option Addr} {l c : Nat} {xs : List Itm} (h : SlO ItK w p l c xs) : ∀ b, bl p b → b < w.heap.size := fun b hb => h.lt hb
/-- All are of the past. -/
theorem StM.past {w : World} {base : Nat} {p : Option Addr} {l c : Nat} {pre : List En} {la : Option En} {m0 : Nat} (h : StM w base p l c pre la m0) : ∀ e ∈ pre ++ la.toList, Sl ItK w e.pi e.items ∧ ∀ b, bl e.pi b → b < w.heap.size := fun e he => by
  rcases List.mem_append.1 he with he | he
  · exact ⟨(h.pr e he).1, fun b hb => Nat.lt_of_lt_of_le ((h.pr e he).2 b hb) h.mw⟩
  · have he : la = some e := by cases la <;> simp_all
    exact ⟨(h.las e he).1.sl, (h.las e he).1.lt'⟩
def z39 : Value := .agg #[.int .i64 0, .int .i64 0, .slice none 0 0, .int .u64 0, .int .i64 0]
theorem und26 : Try.prog.underlying 26 = some (.slice 39) := by kernel_rfl
theorem inf39 : ∃ i, Try.prog.info? 39 = some i ∧ i.zero = some z39 ∧ i.size = 5 ∧ i.bytes ≤ 4096 := ⟨_, rfl, by kernel_rfl, by kernel_rfl, Nat.le_of_ble_eq_true (by kernel_rfl)⟩
theorem fill39 (o : Int) (p : Option Addr) (l c : Nat) (m : Int) : ∀ i : TypeInfo, i.size = 5 → Instr.fill (fun j => some (j * i.size, i.size)) ((Array.range (1 * i.size)).map (z39.cells[· % z39.cells.size]!)) [(0, .agg #[.int .i64 o, .int .i64 0, .slice p l c, .int .u64 0, .int .i64 m])] = some [.int .i64 o, .int .i64 0, .slice p l c, .int .u64 0, .int .i64 m].toArray := by
  intro i h; rw [h]; kernel_rfl
theorem fill39b (o : Int) (p : Option Addr) (l c : Nat) (m : Int) (o' : Int) (p' : Option Addr) (l' c' : Nat) (m' : Int) : ∀ i : TypeInfo, i.size = 5 → Instr.fill (fun j => some (j * i.size, i.size)) ((Array.range (2 * i.size)).map (z39.cells[· % z39.cells.size]!)) [(0, .agg #[.int .i64 o, .int .i64 0, .slice p l c, .int .u64 0, .int .i64 m]), (1, .agg #[.int .i64 o', .int .i64 0, .slice p' l' c', .int .u64 0, .int .i64 m'])] = some [.int .i64 o, .int .i64 0, .slice p l c, .int .u64 0, .int .i64 m, .int .i64 o', .int .i64 0, .slice p' l' c', .int .u64 0, .int .i64 m'].toArray := by
  intro i h; rw [h]; kernel_rfl
section
variable {w : World} {base : Nat} {p : Option Addr} {l c : Nat} {pre : List En} {la : Option En} {m0 : Nat}
/-- A step behind the others. -/
theorem StM.snoc {f : Option Addr → Nat → Nat → W} {ty : TypeId} {cs : Array Bool} {e : En} (h : StM w base p l c pre la m0) {m1 : Nat} (hm0 : ∀ e ∈ pre ++ la.toList, ∀ b, bl e.pi b → b < m1) (hm1 : m1 ≤ w.heap.size) (hb : base ≤ m1)
    (hI : SlO ItK w e.pi e.items.length e.ci e.items) (hIm : ∀ b, bl e.pi b → m1 ≤ b) (hl : l < 1000000)
    (hk : ∀ p' c' w', StM w' base p' (l + 1) c' (pre ++ la.toList) (some e) m1 → Fr (fun b => bl p b) w w' → f p' (l + 1) c' w') :
    RawT Try.prog (Instr.buildSlice 26 1 [(0, .agg #[.int .i64 e.op, .int .i64 0, .slice e.pi e.items.length e.ci, .int .u64 0, .int .i64 e.most])].toArray) (.s (.one .slice)) (fun a m d => NextT Try.prog (builtin .append #[26, 26] ty cs [.slice p l c, .slice a m d].toArray) (.s (.one .slice)) f) w := by
  obtain ⟨i, g1, g2, g3, g4⟩ := inf39
  refine build_intro und26 g1 g2 (by omega) (by omega) (fill39 _ _ _ _ _ i g3) fun w1 f1 b1 z1 => ?_
  have h1 := h.fr0 f1
  refine append_own (P := Try.prog) und26 g1 g2 g3 (by decide) rfl g4 h1.own (news := flat [e]) (m := 1) (by rw [flat_len]; rfl) (fun j u hu => ?_) (flat_one _) (by omega) fun p' c' w2 f2 o2 hp2 => ?_
  · rw [add_mk, Nat.zero_add, b1.cell]
    exact hu
  · have hT : Tys (fun b => bl p b) w1 [39] := fun b u us hb hu => by
      obtain ⟨us', hu'⟩ := h1.own.blk hb
      rw [(hu.unique hu').1]; simp
    have hz1 := f1.size
    refine hk p' c' w2 ⟨?_, ?_, fun e' he' => ⟨(h1.past e' he').1.fr f2 hT (by decide), hm0 e' he'⟩, Nat.le_trans hm1 (Nat.le_trans f1.size f2.size), hb, fun b hb => ?_, fun e' he' => ?_⟩ ((f1.mono fun _ h => h.elim).trans f2 fun _ h => .inl h)
    · rw [show (some e).toList = [e] from rfl, flat_app]; exact o2
    · rw [List.length_append, ← h.len]; rfl
    · have hwm : base ≤ w.heap.size := Nat.le_trans h.bm h.mw
      rcases hp2 b hb with h' | h'
      · exact h.bp b h'
      · omega
    · cases he'
      exact ⟨(hI.fr0 f1).fr f2 hT (by decide), hIm⟩
end
end Go.Proofs.Ytfokodpnoiilbaa.E
