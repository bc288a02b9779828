/-
  Whole blocks of memory, told by what they hold; made slices, appended slices, copied slices, in those words.
-/
import Derived.Test.YtfokodpnoiilbaaGreatMem
import Derived.Laws.OwnMore
import Derived.Laws.IdiomCopy
import Derived.ArgAppend
namespace Go.Proofs.YtfokodpnoiilbaaGreat.E
open Go

/-- The block b holds just these cells, of type t. -/
def Blk (w : World) (b : Nat) (t : TypeId) (vs : List Value) : Prop := w.heap[b]? = some (.cells vs.toArray t (0, 0))

namespace Blk
theorem lt {w : World} {b t : Nat} {vs : List Value} (h : Blk w b t vs) : b < w.heap.size := (Array.getElem?_eq_some_iff.1 h).1
theorem cell {w : World} {b t : Nat} {vs : List Value} (h : Blk w b t vs) (i : Nat) : w.cell? ⟨b, i, none⟩ = vs[i]? := by
  rw [cell_of_row w b i vs.toArray t (0, 0) h]; simp
theorem frozen {w : World} {b t : Nat} {vs : List Value} (h : Blk w b t vs) (i : Nat) : w.frozen? ⟨b, i, none⟩ = false := frozen_of_row w b i vs.toArray t h
theorem new (w : World) (c : Array Value) (t : TypeId) : Blk (w.alloc (.cells c t)) w.heap.size t c.toList := by
  unfold Blk; rw [Array.toArray_toList]; exact heap_alloc_new w _
theorem new' (w : World) (c : List Value) (t : TypeId) : Blk (w.alloc (.cells c.toArray t)) w.heap.size t c := heap_alloc_new w _
theorem alloc {w : World} {b t : Nat} {vs : List Value} (h : Blk w b t vs) (o : Obj) : Blk (w.alloc o) b t vs := (heap_alloc_old w o b h.lt).trans h
theorem set {w : World} {b t : Nat} {vs : List Value} (h : Blk w b t vs) (i : Nat) (v : Value) : Blk (w.setCell ⟨b, i, none⟩ v) b t (vs.set i v) := by
  unfold Blk; rw [heap_setCell_same w b i vs.toArray t v h]; simp
theorem set_ne {w : World} {b t : Nat} {vs : List Value} (h : Blk w b t vs) {a : Addr} (v : Value) (hn : b ≠ a.block) : Blk (w.setCell a v) b t vs :=
  (heap_setCell_other w a b v hn).trans h
theorem drew {w : World} {b t : Nat} {vs : List Value} (h : Blk w b t vs) : Blk w.drew b t vs := h
theorem fr {S : Nat → Prop} {w w' : World} {b t : Nat} {vs : List Value} (h : Blk w b t vs) (f : Fr S w w') (hS : ¬ S b) : Blk w' b t vs := (f.block b h.lt hS).trans h
theorem ne_new {w : World} {b t : Nat} {vs : List Value} (h : Blk w b t vs) : b ≠ w.heap.size := Nat.ne_of_lt h.lt
theorem unique {w : World} {b t t' : Nat} {vs vs' : List Value} (h : Blk w b t vs) (h' : Blk w b t' vs') : t = t' ∧ vs = vs' := by
  have e := h.symm.trans h'
  simp only [Option.some.injEq, Obj.cells.injEq] at e
  exact ⟨e.2.1, by have := congrArg Array.toList e.1; simpa using this⟩
end Blk

theorem fr_of_grownBy {w w' : World} {row : Option Nat} (h : w.grownBy w' row) : Fr (fun b => row = some b) w w' :=
  ⟨h.os, h.tape, h.output, h.size, fun b hb hS => h.block b hb fun e => hS e.symm⟩
theorem add_mk (b i j : Nat) : (⟨b, i, none⟩ : Addr).add j = ⟨b, i + j, none⟩ := by unfold Addr.add; split <;> simp_all

/-- A slice that the running code made itself: it begins a block of its own; 'vs' are its elements. -/
def Own (w : World) (e : TypeId) (p : Option Addr) (l c : Nat) (vs : List Value) : Prop :=
  vs.length = l ∧ ((p = none ∧ l = 0 ∧ c = 0) ∨ ∃ q rest, p = some ⟨q, 0, none⟩ ∧ Blk w q e (vs ++ rest) ∧ (vs ++ rest).length = c ∧ c ≤ maxLen)
def bl (p : Option Addr) (b : Nat) : Prop := ∃ a, p = some a ∧ a.block = b

namespace Own
theorem nil (w : World) (e : TypeId) : Own w e none 0 0 [] := ⟨rfl, .inl ⟨rfl, rfl, rfl⟩⟩
theorem fr {S : Nat → Prop} {w w' : World} {e : TypeId} {p : Option Addr} {l c : Nat} {vs : List Value} (h : Own w e p l c vs) (f : Fr S w w') (hS : ∀ b, bl p b → ¬ S b) : Own w' e p l c vs := by
  refine ⟨h.1, h.2.imp id ?_⟩
  rintro ⟨q, rest, rfl, hb, hc, hm⟩
  exact ⟨q, rest, rfl, hb.fr f (hS q ⟨_, rfl, rfl⟩), hc, hm⟩
theorem owns {w : World} {e : TypeId} {p : Option Addr} {l c : Nat} {vs : List Value} (h : Own w e p l c vs) : w.ownsRow 0 e 1 (.slice p l c) l vs := by
  refine ⟨by rw [Nat.mul_one]; exact h.1, ?_⟩
  rcases h.2 with ⟨rfl, rfl, rfl⟩ | ⟨q, rest, rfl, hb, hc, hm⟩
  · exact .inl ⟨rfl, rfl⟩
  · refine .inr ⟨q, c, _, rfl, Nat.zero_le _, hb, ?_, hm, by simpa using hc, ?_⟩
    · rw [← hc, ← h.1]; simp
    · rw [Nat.mul_one, ← h.1]; simp
theorem of {w : World} {base : Nat} {e : TypeId} {v : Value} {n : Nat} {xs : List Value} (h : w.ownsRow base e 1 v n xs) : ∃ p c, v = .slice p n c ∧ Own w e p n c xs ∧ ∀ b, bl p b → base ≤ b := by
  have h1 : xs.length = n := by rw [h.1, Nat.mul_one]
  rcases h.2 with ⟨rfl, rfl⟩ | ⟨g, cap, cur, rfl, hb, hg, hn, hc, hs, ht⟩
  · exact ⟨none, 0, rfl, ⟨h1, .inl ⟨rfl, rfl, rfl⟩⟩, fun b ⟨a, h, _⟩ => by cases h⟩
  · rw [Nat.mul_one] at ht hs
    refine ⟨_, cap, rfl, ⟨h1, .inr ⟨g, cur.toList.drop n, rfl, ?_, ?_, hc⟩⟩, fun b ⟨a, h, e⟩ => by cases h; exact e ▸ hb⟩
    · unfold Blk; rw [← ht, List.take_append_drop, Array.toArray_toList]; exact hg
    · rw [← ht, List.take_append_drop, Array.length_toList, hs]
theorem lt {w : World} {e : TypeId} {p : Option Addr} {l c : Nat} {vs : List Value} (h : Own w e p l c vs) {b : Nat} (hb : bl p b) : b < w.heap.size := by
  obtain ⟨a, rfl, rfl⟩ := hb
  rcases h.2 with ⟨h, _⟩ | ⟨q, rest, h, hb, _⟩
  · cases h
  · cases h; exact hb.lt
theorem get {w : World} {e : TypeId} {p : Option Addr} {l c : Nat} {vs : List Value} (h : Own w e p l c vs) (hl : 0 < l) : ∃ q rest, p = some ⟨q, 0, none⟩ ∧ Blk w q e (vs ++ rest) ∧ (vs ++ rest).length = c ∧ c ≤ maxLen := by
  rcases h.2 with ⟨_, h, _⟩ | h
  · omega
  · exact h
/-- An element of one's own slice. -/
theorem cell {w : World} {e : TypeId} {q : Nat} {l c : Nat} {vs : List Value} (h : Own w e (some ⟨q, 0, none⟩) l c vs) {i : Nat} (hi : i < l) : w.cell? ⟨q, i, none⟩ = vs[i]? := by
  rcases h.2 with ⟨h, _⟩ | ⟨q', rest, h', hb, _⟩
  · cases h
  · cases h'; rw [hb.cell, List.getElem?_append_left (by rw [h.1]; exact hi)]
theorem frozen {w : World} {e : TypeId} {q : Nat} {l c : Nat} {vs : List Value} (h : Own w e (some ⟨q, 0, none⟩) l c vs) (i : Nat) : w.frozen? ⟨q, i, none⟩ = false := by
  rcases h.2 with ⟨h, _⟩ | ⟨q', rest, h', hb, _⟩
  · cases h
  · cases h'; exact hb.frozen i
theorem set {w : World} {e : TypeId} {q : Nat} {l c : Nat} {vs : List Value} (h : Own w e (some ⟨q, 0, none⟩) l c vs) {i : Nat} (hi : i < l) (v : Value) :
    Own (w.setCell ⟨q, i, none⟩ v) e (some ⟨q, 0, none⟩) l c (vs.set i v) := by
  rcases h.2 with ⟨h, _⟩ | ⟨q', rest, h', hb, hc, hm⟩
  · cases h
  · cases h'
    have := hb.set i v
    rw [List.set_append_left _ _ (by rw [h.1]; exact hi)] at this
    exact ⟨by simpa using h.1, .inr ⟨q, rest, rfl, this, by simpa using hc, hm⟩⟩
end Own

section
variable {P : Program}
theorem builtin_append {ts : Array TypeId} {ty : TypeId} {cs : Array Bool} {args : Array Value} {w w' : World} {v : Value} (h : (Builtin.append_ ts ty args).run P w = .ok v w') :
    (builtin .append ts ty cs args).run P w = .ok (Next.value v) w' := by
  show (Sem.run P (do let a ← Builtin.append_ ts ty args; pure (Next.value a)) w) = _
  simp [h]
theorem builtin_copy {ts : Array TypeId} {ty : TypeId} {cs : Array Bool} {args : Array Value} {w w' : World} {v : Value} (h : (Builtin.copy_ ts ty args).run P w = .ok v w') :
    (builtin .copy ts ty cs args).run P w = .ok (Next.value v) w' := by
  show (Sem.run P (do let a ← Builtin.copy_ ts ty args; pure (Next.value a)) w) = _
  simp [h]

theorem RawT_slice {s : Sem Value} {f : Option Addr → Nat → Nat → W} {p : Option Addr} {l c : Nat} {w w' : World} (h : s.run P w = .ok (.slice p l c) w') (hk : f p l c w') : RawT P s (.s (.one .slice)) f w :=
  ⟨((p, l, c), ()), w', h, hk⟩
theorem NextT_slice {s : Sem Next} {f : Option Addr → Nat → Nat → W} {p : Option Addr} {l c : Nat} {w w' : World} (h : s.run P w = .ok (.value (.slice p l c)) w') (hk : f p l c w') : NextT P s (.s (.one .slice)) f w := by
  unfold NextT; rw [h]; exact back_slice hk
theorem NextT_int {s : Sem Next} {k : IntKind} {f : Int → W} {n : Int} {w w' : World} (h : s.run P w = .ok (.value (.int k n)) w') (hk : f n w') : NextT P s (.s (.one (.int k))) f w := by
  unfold NextT; rw [h]; exact back_int hk

/-- make: the elements of one cell. -/
theorem make_intro {t e : TypeId} {i : TypeInfo} {z : Value} {f : Option Addr → Nat → Nat → W} {w : World} (n m : Nat) {kl kc : IntKind} (ht : P.underlying t = some (.slice e)) (hi : P.info? e = some i) (hz : i.zero = some z)
    (h1 : i.size = 1) (hzc : z.cells = #[z]) (hb : i.bytes ≤ 65536) (hm : m ≤ 4294967296) (hnm : n ≤ m)
    (hk : ∀ w', Fr (fun _ => False) w w' → Own w' e (some ⟨w.heap.size, 0, none⟩) n m (List.replicate n z) → Blk w' w.heap.size e (List.replicate m z) → w'.heap.size = w.heap.size + 1 → f (some ⟨w.heap.size, 0, none⟩) n m w') :
    RawT P (Instr.makeSlice t (.int kl (n : Int)) (.int kc (m : Int))) (.s (.one .slice)) f w := by
  have hbytes : (i.bytes : Int) * (m : Int) ≤ 281474976710656 := by
    have h := Nat.mul_le_mul hb hm
    have h' : ((i.bytes * m : Nat) : Int) ≤ 281474976710656 := by omega
    rwa [Int.natCast_mul] at h'
  have hr := run_make (P := P) w t e i z ht hi hz kl kc n m (by omega) (by omega) hbytes (by omega)
  simp only [Int.toNat_natCast, h1, Nat.mul_one, hzc] at hr
  have hB : Blk (w.alloc (.cells (madeCells #[z] m) e)) w.heap.size e (List.replicate m z) := by
    have := Blk.new w (madeCells #[z] m) e
    rwa [toList_madeCells_one] at this
  obtain ⟨d, rfl⟩ := Nat.exists_eq_add_of_le hnm
  exact RawT_slice hr (hk _ (Fr.alloc _ _ _) ⟨by simp, .inr ⟨_, List.replicate d z, rfl, by rw [List.replicate_append_replicate]; exact hB, by simp, by simp only [maxLen]; omega⟩⟩ hB (by simp))

/-- append of one element. -/
theorem append1 {t e : TypeId} {i : TypeInfo} {z : Value} {ty : TypeId} {cs : Array Bool} {f : Option Addr → Nat → Nat → W} {w : World} {p : Option Addr} {l c : Nat} {vs : List Value} {v : Value}
    (ht : P.underlying t = some (.slice e)) (hi : P.info? e = some i) (hz : i.zero = some z) (h1 : i.size = 1) (hzc : z.cells = #[z]) (hb : i.bytes ≤ 4096)
    (hown : Own w e p l c vs) (hv : v.oneCell' = true) (hvc : v.cells = #[v]) (hl : l < 4294967296)
    (hk : ∀ p' c' w', Fr (fun b => bl p b) w w' → Own w' e p' (l + 1) c' (vs ++ [v]) → (∀ b, bl p' b → bl p b ∨ w.heap.size ≤ b) → w.heap.size ≤ w'.heap.size → f p' (l + 1) c' w') :
    RawT P (Instr.buildSlice t 1 [(0, v)].toArray) (.s (.one .slice)) (fun a m d => NextT P (builtin .append #[t, t] ty cs [.slice p l c, .slice a m d].toArray) (.s (.one .slice)) f) w := by
  have hr : (Instr.buildSlice t 1 [(0, v)].toArray).run P w = .ok (.slice (some ⟨w.heap.size, 0, none⟩) 1 1) (w.alloc (.cells #[v] e)) := by
    simp [Instr.buildSlice, run_underlying ht, sizeOf, typeInfo, hi, h1, zeroValue, hz, hzc, Instr.fill, newRow, hvc]
    have hx : (Array.map (fun x => [z][x % 1]?.getD default) (Array.range 1)).setIfInBounds 0 v = #[v] := by
      apply Array.ext
      · simp
      · intro j h1 h2
        have hj : j = 0 := by simpa using h2
        subst hj
        simp
    rw [hx]
  refine RawT_slice hr ?_
  have f1 : Fr (fun _ => False) w (w.alloc (.cells #[v] e)) := Fr.alloc _ _ _
  have o1 : Own (w.alloc (.cells #[v] e)) e p l c vs := hown.fr f1 fun _ _ h => h
  have b1 : Blk (w.alloc (.cells #[v] e)) w.heap.size e [v] := Blk.new _ _ _
  have hs1 : (w.alloc (.cells #[v] e)).heap.size = w.heap.size + 1 := by simp
  have hne : ∀ b, bl p b → b < w.heap.size := fun b hb => hown.lt hb
  generalize w.alloc (.cells #[v] e) = w1 at *
  have hnews : ∀ j u, [v][j]? = some u → w1.cell? ((⟨w.heap.size, 0, none⟩ : Addr).add j) = some u := by
    intro j u h
    rw [add_mk, b1.cell]; simpa using h
  have hall : ∀ u ∈ [v], u.oneCell' = true := by simpa using hv
  have fin : ∀ {v' w' row}, (Builtin.append_ #[t, t] ty #[.slice p l c, .slice (some ⟨w.heap.size, 0, none⟩) 1 1]).run P w1 = .ok v' w' → (∃ base, w'.ownsRow base e 1 v' (l + 1) (vs ++ [v]) ∧ ((∃ c', v' = .slice p (l + 1) c') ∨ w.heap.size ≤ base)) → w1.grownBy w' row → (∀ b, row = some b → bl p b) →
      NextT P (builtin .append #[t, t] ty cs [.slice p l c, .slice (some ⟨w.heap.size, 0, none⟩) 1 1].toArray) (.s (.one .slice)) f w1 := by
    intro v' w' row hr ⟨base, ho, hbase⟩ hg hrow
    obtain ⟨p', c', rfl, ho', hb'⟩ := Own.of ho
    refine NextT_slice (builtin_append hr) (hk _ _ _ ?_ ho' ?_ ?_)
    · exact (f1.mono (S' := fun b => bl p b) fun _ h => h.elim).trans (fr_of_grownBy hg) fun b h => .inl (hrow b h)
    · intro b hb2
      rcases hbase with ⟨c2, h⟩ | h
      · cases h; exact .inl hb2
      · exact .inr (Nat.le_trans h (hb' b hb2))
    · have := hg.size; omega
  have hsz1 : 0 < 1 := by decide
  rcases hown.2 with ⟨rfl, rfl, rfl⟩ | ⟨q, rest, rfl, hB, hc, hm⟩
  · have hvs : vs = [] := List.length_eq_zero_iff.1 hown.1
    subst hvs
    obtain ⟨v', w', hr, ho, hg, _⟩ := run_append_own (P := P) w1 w1.heap.size t ty e i z 1 i.bytes ht hi hz h1 rfl (by simp [hzc]) hsz1 (.slice none 0 0) 0 [] (World.ownsRow_nil _ _ _ _) ⟨w.heap.size, 0, none⟩ 1 1 [v] rfl hnews hall (by decide) (by omega) (Nat.le_refl _)
    exact fin hr ⟨_, ho, .inr (by omega)⟩ hg (fun b h => by cases h)
  · have ho := o1.owns
    by_cases hroom : l + 1 ≤ c
    · obtain ⟨w', hr, ho', hg⟩ := run_append_fits (P := P) w1 0 t ty e i 1 ht hi h1 q l c vs ho ⟨w.heap.size, 0, none⟩ 1 1 [v] rfl hnews hall hroom
      exact fin hr ⟨_, ho', .inl ⟨_, rfl⟩⟩ hg (fun b h => by cases h; exact ⟨_, rfl, rfl⟩)
    · have hcells : ∀ j u, vs[j]? = some u → w1.cell? ((⟨q, 0, none⟩ : Addr).add j) = some u := by
        intro j u hu
        have hj : j < l := by rw [← hown.1]; exact (List.getElem?_eq_some_iff.1 hu).1
        rw [add_mk, Nat.zero_add, o1.cell hj]; exact hu
      obtain ⟨v', w', hr, ho', hg⟩ := run_append_arg_grows (P := P) w1 t ty e i z 1 i.bytes ht hi hz h1 rfl (by simp [hzc]) hsz1 ⟨q, 0, none⟩ l c vs (by rw [Nat.mul_one]; exact hown.1) hcells ⟨w.heap.size, 0, none⟩ 1 1 [v] rfl hnews (by omega) (by simp only [maxLen]; omega) (by
        have := Nat.mul_le_mul (show l + 1 ≤ 4294967296 by omega) hb; omega)
      exact fin hr ⟨_, ho', .inr (by omega)⟩ hg (fun b h => by cases h)

/-- copy, into a block of one's own: all is read ahead of what is written. -/
theorem copy_intro {dT sT ty elem : TypeId} {cs : Array Bool} {f : Int → W} {w : World} {q t o dLen dCap sLen sCap : Nat} {a : Addr} {vs src : List Value}
    (hu : P.underlying dT = some (.slice elem)) (hs : (P.info? elem).map (·.size) = some 1) (hB : Blk w q t vs) (hn : src.length = min sLen dLen)
    (hsrc : ∀ j v, src[j]? = some v → w.cell? (a.add j) = some v) (hfit : o + src.length ≤ vs.length) (h1 : ∀ v ∈ src, v.oneCell' = true)
    (hk : ∀ w', Blk w' q t (vs.take o ++ src ++ vs.drop (o + src.length)) → Fr (fun b => b = q) w w' → w'.heap.size = w.heap.size → f (src.length : Nat) w') :
    NextT P (builtin .copy #[dT, sT] ty cs [.slice (some ⟨q, o, none⟩) dLen dCap, .slice (some a) sLen sCap].toArray) (.s (.one (.int .i64))) f w := by
  have hr := run_copy_row (P := P) w dT sT ty elem q o dLen dCap a sLen sCap vs.toArray t src hu hs hB hn hsrc (by simpa using hfit) h1
  refine NextT_int (builtin_copy hr) (hk _ ?_ ⟨rfl, rfl, rfl, by simp, fun b _ hS => setRow_other w q b _ hS⟩ (by simp))
  exact setRow_heap w q vs.toArray _ t _ hB
theorem copy_none {dT sT ty elem : TypeId} {cs : Array Bool} {f : Int → W} {w : World} {d a : Option Addr} {dLen dCap sLen sCap : Nat}
    (hu : P.underlying dT = some (.slice elem)) (hs : (P.info? elem).map (·.size) = some 1) (hn : min sLen dLen = 0) (hk : f 0 w) :
    NextT P (builtin .copy #[dT, sT] ty cs [.slice d dLen dCap, .slice a sLen sCap].toArray) (.s (.one (.int .i64))) f w :=
  NextT_int (builtin_copy (run_copy_none (P := P) w dT sT ty elem d a dLen dCap sLen sCap hu hs hn)) hk
end

theorem new_intro {c : List Value} {t : TypeId} {f : Nat → W} {w : World} (hk : ∀ n w', n = w.heap.size → Blk w' n t c → Fr (fun _ => False) w w' → w'.heap.size = n + 1 → f n w') : New c t f w :=
  hk _ _ rfl (Blk.new' _ _ _) (Fr.alloc _ _ _) (by simp)
theorem drw_intro {w : World} {k : W} (hk : ∀ w', Fr (fun _ => False) w w' → w'.heap.size = w.heap.size → k w') : Drw k w := hk _ (Fr.drew _ _) rfl
theorem bind_intro {α : Type} {a : α} {f : α → W} {w : World} (h : f a w) : Bind a f w := h
theorem store_intro {w : World} {b t i : Nat} {vs : List Value} {v : Value} {k : W} (h : Blk w b t vs) (hi : i < vs.length) (hv : oneC v = true)
    (hk : ∀ w', Blk w' b t (vs.set i v) → Fr (fun x => x = b) w w' → w'.heap.size = w.heap.size → k w') : Store1 ⟨b, i, none⟩ v k w :=
  Store1_iff.2 ⟨hv, ⟨_, by rw [h.cell, List.getElem?_eq_getElem hi]⟩, h.frozen i, hk _ (h.set i v) (Fr.setCell _ _ _ rfl) (by simp)⟩
theorem load_int {w : World} {b t i : Nat} {vs : List Value} {k : IntKind} {n : Int} {f : Int → W} (h : Blk w b t vs) (hi : vs[i]? = some (.int k n)) (hk : f n w) : LoadT (.int k) ⟨b, i, none⟩ f w :=
  LoadT_int.2 ⟨n, by rw [h.cell, hi], hk⟩
theorem load_slice {w : World} {b t i : Nat} {vs : List Value} {p : Option Addr} {l c : Nat} {f : Option Addr → Nat → Nat → W} (h : Blk w b t vs) (hi : vs[i]? = some (.slice p l c)) (hk : f p l c w) : LoadT .slice ⟨b, i, none⟩ f w :=
  LoadT_slice.2 ⟨p, l, c, by rw [h.cell, hi], hk⟩
theorem load_ptr {w : World} {b t i : Nat} {vs : List Value} {p : Option Addr} {f : Option Addr → W} (h : Blk w b t vs) (hi : vs[i]? = some (.pointer p)) (hk : f p w) : LoadT .ptr ⟨b, i, none⟩ f w :=
  LoadT_ptr.2 ⟨p, by rw [h.cell, hi], hk⟩
theorem load_bool {w : World} {b t i : Nat} {vs : List Value} {p : Bool} {f : Bool → W} (h : Blk w b t vs) (hi : vs[i]? = some (.bool p)) (hk : f p w) : LoadT .bool ⟨b, i, none⟩ f w :=
  LoadT_bool.2 ⟨p, by rw [h.cell, hi], hk⟩
theorem load_any {w : World} {b t i : Nat} {vs : List Value} {v : Value} {f : Value → W} (h : Blk w b t vs) (hi : vs[i]? = some v) (hk : f v w) : LoadT .any ⟨b, i, none⟩ f w :=
  LoadT_any.2 ⟨v, by rw [h.cell, hi], hk⟩
theorem load_map {w : World} {b t i : Nat} {vs : List Value} {v : Option Nat} {f : Option Nat → W} (h : Blk w b t vs) (hi : vs[i]? = some (.map v)) (hk : f v w) : LoadT .map ⟨b, i, none⟩ f w :=
  LoadT_map.2 ⟨v, by rw [h.cell, hi], hk⟩
end Go.Proofs.YtfokodpnoiilbaaGreat.E
