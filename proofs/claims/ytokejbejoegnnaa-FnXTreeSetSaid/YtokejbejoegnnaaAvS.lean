/-
  Entries inserted; what is said of a tree; answers compared.
-/
import Derived.Test.YtokejbejoegnnaaAvR
import Derived.Test.YtokejbejoegnnaaST4
namespace Go.Proofs.Ytokejbejoegnnaa.E
open Go Tr
set_option linter.unusedSimpArgs false
set_option linter.unusedVariables false
set_option maxRecDepth 100000
set_option maxHeartbeats 4000000

/-- append of one element where there is room: the row stays. -/
theorem append1_room {P : Program} {t e : TypeId} {i : TypeInfo} {z : Value} {ty : TypeId} {cs : Array Bool} {f : Option Addr → Nat → Nat → W} {w : World} {q l c : Nat} {vs : List Value} {v : Value}
    (ht : P.underlying t = some (.slice e)) (hi : P.info? e = some i) (hz : i.zero = some z) (h1 : i.size = 1) (hzc : z.cells = #[z])
    (hown : Own w e (some ⟨q, 0, none⟩) l c vs) (hv : v.oneCell' = true) (hvc : v.cells = #[v]) (hroom : l + 1 ≤ c)
    (hk : ∀ w', Fr (fun b => b = q) w w' → Own w' e (some ⟨q, 0, none⟩) (l + 1) c (vs ++ [v]) → f (some ⟨q, 0, none⟩) (l + 1) c w') :
    RawT P (Instr.buildSlice t 1 [(0, v)].toArray) (.s (.one .slice)) (fun a m d => NextT P (builtin .append #[t, t] ty cs [.slice (some ⟨q, 0, none⟩) l c, .slice a m d].toArray) (.s (.one .slice)) f) w := by
  have hr : (Instr.buildSlice t 1 [(0, v)].toArray).run P w = .ok (.slice (some ⟨w.heap.size, 0, none⟩) 1 1) (w.alloc (.cells #[v] e)) := by
    simp [Instr.buildSlice, run_underlying ht, sizeOf, typeInfo, hi, h1, zeroValue, hz, hzc, Instr.fill, newRow, hvc]
    have hx : (Array.map (fun x => [z][x % 1]?.getD default) (Array.range 1)).setIfInBounds 0 v = #[v] := by
      apply Array.ext
      · simp
      · intro j h1 h2
        have hj : j = 0 := by simpa using h2
        subst hj
        simp
    rw [hx]
  refine RawT_slice hr ?_
  have f1 : Fr (fun _ => False) w (w.alloc (.cells #[v] e)) := Fr.alloc _ _ _
  have o1 : Own (w.alloc (.cells #[v] e)) e (some ⟨q, 0, none⟩) l c vs := hown.fr f1 fun _ _ h => h
  have b1 : Blk (w.alloc (.cells #[v] e)) w.heap.size e [v] := Blk.new _ _ _
  generalize w.alloc (.cells #[v] e) = w1 at *
  have hnews : ∀ j u, [v][j]? = some u → w1.cell? ((⟨w.heap.size, 0, none⟩ : Addr).add j) = some u := by
    intro j u h
    rw [add_mk, b1.cell]; simpa using h
  have hall : ∀ u ∈ [v], u.oneCell' = true := by simpa using hv
  obtain ⟨w', hr', ho', hg⟩ := run_append_fits (P := P) w1 0 t ty e i 1 ht hi h1 q l c vs o1.owns ⟨w.heap.size, 0, none⟩ 1 1 [v] rfl hnews hall hroom
  obtain ⟨p', c', e', ho, _⟩ := Own.of ho'
  cases e'
  refine NextT_slice (builtin_append hr') (hk w' ?_ ho)
  exact (f1.mono fun _ h => h.elim).trans (fr_of_grownBy hg) fun b h => .inl (by cases h; rfl)

inductive InsAll : List It2 → List It2 → List It2 → List (Option It2) → Prop
  | nil {L : List It2} : InsAll L [] L []
  | snoc {L es L1 L2 : List It2} {vs : List (Option It2)} {e : It2} {v : Option It2} : InsAll L es L1 vs → InsL L1 e L2 v → InsAll L (es ++ [e]) L2 (vs ++ [v])
theorem InsAll.len {L es L' : List It2} {vs : List (Option It2)} (h : InsAll L es L' vs) (hL : Srt L) : Srt L' ∧ L'.length ≤ L.length + es.length ∧ vs.length = es.length := by
  induction h with
  | nil => exact ⟨hL, by simp, rfl⟩
  | @snoc es L1 L2 vs e v h1 h2 ih =>
    obtain ⟨a, b, c⟩ := ih
    have := (h2.look a).2.2
    refine ⟨h2.srt a, ?_, by simp [c]⟩
    simp only [List.length_append, List.length_singleton]
    split at this <;> omega
/-- Insert. -/
theorem F43_spec {k : Value → W} {w : World} {ib num : Nat} {t : Tr} {p : Option Addr} {c : Nat} {es : List It2} (hT : TM w 0 ib t num) (hE : EIts w p es) (hp : ∀ b, bl p b → b < w.heap.size) (h0 : 0 < es.length) (hb : num + es.length < 100000)
    (hk : ∀ ib' t' num' vs q c' w', TM w' 0 ib' t' num' → w.heap.size ≤ ib' → InsAll t.list es t'.list vs → (∀ b ∈ t'.bs, b ∈ t.bs ∨ w.heap.size ≤ b) → Own w' 93 q es.length c' (vs.map vE) → (∀ b, bl q b → w.heap.size ≤ b) → Fr (fun _ => False) w w' → k (.tuple #[.pointer (some ⟨ib', 0, none⟩), .slice q es.length c']) w') : F43 k (some ⟨ib, 0, none⟩) p es.length c w := by
  unfold F43
  rw [show (((es.length : Nat) : Int) == 0) = false by rw [beq_eq_false_iff_ne]; omega]
  simp only [BIf_false]
  obtain ⟨ii, hi1, hi2, hi3, hi4⟩ := inf93
  refine make_intro (P := Try.prog) 0 es.length und71 hi1 hi2 hi3 rfl (by omega) (by omega) (Nat.zero_le _) fun w1 f1 o1 b1 z1 => ?_
  refine F59_call (F59_spec (base := w1.heap.size) (hT.fr0 f1) (Nat.le_refl _) fun ib' t0 w2 T2 hl2 hs2 f2 => back_ptr ?_)
  have hib' := T2.ibb
  have hz2 := f2.size
  have hnum := hT.num
  refine F43_L1_rule (fun op ol oc im sp sl sc x9 x10 w' => op = some ⟨w.heap.size, 0, none⟩ ∧ oc = es.length ∧ im = some ⟨ib', 0, none⟩ ∧ sp = p ∧ sl = es.length ∧ x9 = (es.length : Nat) ∧ ∃ (i : Nat) (t' : Tr) (num' : Nat) (vs : List (Option It2)), x10 = i ∧ i ≤ es.length ∧ ol = i ∧ TM w' w1.heap.size ib' t' num' ∧ InsAll t.list (es.take i) t'.list vs ∧ (∀ b ∈ t'.bs, b ∈ t.bs ∨ w.heap.size ≤ b) ∧ Own w' 93 (some ⟨w.heap.size, 0, none⟩) i es.length (vs.map vE) ∧ Fr (fun _ => False) w w')
    (fun _ _ _ _ _ _ _ x9 x10 _ => (x9 - x10).toNat) ?_ ⟨rfl, rfl, rfl, rfl, rfl, rfl, 0, t0, num, [], rfl, Nat.zero_le _, rfl, T2, by rw [hl2]; exact .nil, fun b hb => (hs2 b hb).imp id fun h => by have := f1.size; omega, o1.fr f2 fun _ _ h => h, f1.trans f2 fun _ h => h.elim⟩
  rintro op ol oc im sp sl sc x9 x10 w3 ⟨rfl, rfl, rfl, e1, e2, rfl, i, t', num', vs, rfl, hi, e3, T3, I3, B3, o3, f3⟩
  obtain rfl := e1.symm; obtain rfl := e2.symm; obtain rfl := e3.symm
  unfold F43_L1
  by_cases hil : i < es.length
  rotate_left
  · have : i = es.length := by omega
    subst this
    rw [decide_eq_false (by omega)]
    rw [List.take_length] at I3
    simp only [BIf_false]
    exact hk ib' t' num' vs _ _ w3 T3.weak (by omega) I3 B3 o3 (fun b ⟨a, h, e⟩ => by cases h; exact Nat.le_of_eq e) f3
  rw [decide_eq_true (by omega)]
  have hget : es[i]? = some (es[i]'(by omega)) := List.getElem?_eq_getElem _
  generalize es[i]'(by omega) = x at hget
  obtain ⟨a, rfl, c1⟩ := hE.fr0 f3 i x hget
  simp only [BIf_true, NN_mk, Int.toNat_natCast]
  refine ⟨by omega, LoadT_any.2 ⟨_, c1, ?_⟩⟩
  have hlen := I3.len hT.srt
  have htl : (es.take i).length = i := by simp; omega
  rw [htl] at hlen
  have hn3 := T3.num
  have hs3 := f3.size
  have hob : w.heap.size < w1.heap.size := by omega
  have hz3 : w1.heap.size ≤ w3.heap.size := by have := T3.im.lt; omega
  refine F60_call (F60_spec T3 hz3 (by omega) fun t2 v num2 w4 T4 I4 hn4 B4 f4 => ?_)
  have o4 : Own w4 93 (some ⟨w.heap.size, 0, none⟩) i es.length (vs.map vE) := o3.fr f4 fun b ⟨a, h, e⟩ hb => by cases h; have : w.heap.size = b := e; omega
  refine back_any ?_
  refine append1_room (P := Try.prog) und71 hi1 hi2 hi3 rfl o4 (vE_one v) (vE_cells v) (by omega) fun w5 f5 o5 => ?_
  rw [add_one (by omega)]
  have T5 : TM w5 w1.heap.size ib' t2 num2 := by
    have hov : ∀ b ∈ t2.bs, ¬ b = w.heap.size := fun b hb e => by
      obtain ⟨us, hu⟩ := blk_of T4.tr hb
      obtain ⟨vs', hv⟩ := o4.blk (b := w.heap.size) ⟨_, rfl, rfl⟩
      rw [e] at hu
      exact absurd (hu.unique hv).1 (by decide)
    exact ⟨Blk.fr T4.im f5 fun e => by have : ib' = w.heap.size := e; omega, T4.tr.fr f5 hov, T4.avl, T4.srt, T4.nd, T4.num, T4.root, T4.ibb⟩
  have f35 : Fr (fun _ => False) w w5 := (f3.trans f4 fun b hb => .inr (by have : w1.heap.size ≤ b := hb; omega)).trans f5 fun b hb => .inr (by have : b = w.heap.size := hb; omega)
  refine ⟨⟨(by trivial), (by trivial), (by trivial), (by trivial), (by trivial), (by trivial), i + 1, t2, num2, vs ++ [v], rfl, by omega, (by trivial), T5, ?_, fun b hb => (B4 b hb).elim (fun h => B3 b h) fun h => .inr (by omega), ?_, f35⟩, by omega⟩
  · rw [take_snoc hget]; exact .snoc I3 I4
  · rw [List.map_append]; exact o5
/-- Values that were returned, readable at p. -/
def VIts (w : World) (p : Option Addr) (vs : List (Option It2)) : Prop := ∀ i v, vs[i]? = some v → ∃ a, p = some a ∧ w.cell? (a.add i) = some (vE v)
theorem VIts.fr0 {w w' : World} {p : Option Addr} {vs : List (Option It2)} (h : VIts w p vs) (f : Fr (fun _ => False) w w') : VIts w' p vs := fun i x hx => by
  obtain ⟨a, h1, h2⟩ := h i x hx
  exact ⟨a, h1, by rw [f.cell (cell_lt h2) id]; exact h2⟩
theorem Own.vits {w : World} {p : Option Addr} {l c : Nat} {vs : List (Option It2)} (h : Own w 93 p l c (vs.map vE)) : VIts w p vs := fun i x hx => by
  have hl : vs.length = l := by simpa using h.1
  have hi : i < vs.length := (List.getElem?_eq_some_iff.1 hx).1
  obtain ⟨q, rest, rfl, _, _, _⟩ := h.get (by omega)
  exact ⟨_, rfl, by rw [add_mk, Nat.zero_add, h.cell (by omega), List.getElem?_map, hx]; rfl⟩
def val (v : Option It2) : It2 := v.getD (0, 0)
theorem assertE (v : Option It2) {f : Int → Int → Bool → W} {w : World} (hk : f (val v).1 (val v).2 v.isSome w) : RawS Try.prog (Instr.typeAssert (vE v) 93 95 true) (.tup [(.agg [(.int .i64), (.int .i64)]), (.one .bool)]) f w := by
  cases v with
  | none => exact ⟨(0, 0, false, ()), by kernel_rfl, hk⟩
  | some x => exact ⟨(x.1, x.2, true, ()), by obtain ⟨a, b⟩ := x; kernel_rfl, hk⟩
theorem fill37 (x : It2) : ∀ i : TypeInfo, i.size = 2 → Instr.fill (fun j => some (j * i.size, i.size)) ((Array.range (1 * i.size)).map (z40.cells[· % z40.cells.size]!)) [(0, .agg #[.int .i64 x.1, .int .i64 x.2])] = some (flat [x]).toArray := by
  intro i h
  rw [h]
  kernel_rfl
end Go.Proofs.Ytokejbejoegnnaa.E
