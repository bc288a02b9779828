/-
  Lists of numbers and of pairs of numbers in memory, read element by element.
-/
import Derived.Test.YtfokodpnoiilbaaGreatWide
import Derived.Test.YtfokodpnoiilbaaGreatArith
namespace Go.Proofs.YtfokodpnoiilbaaGreat.E
open Go
set_option linter.unusedSimpArgs false
set_option linter.unusedVariables false

theorem Own.blk {w : World} {e : TypeId} {p : Option Addr} {l c : Nat} {vs : List Value} (h : Own w e p l c vs) {b : Nat} (hb : bl p b) : ∃ us, Blk w b e us := by
  obtain ⟨a, rfl, rfl⟩ := hb
  rcases h.2 with ⟨h, _⟩ | ⟨q, rest, h, hb, _⟩
  · cases h
  · cases h; exact ⟨_, hb⟩
def ints (l : List Int) : List Value := l.map (.int .i64)
@[simp] theorem ints_append (l m : List Int) : ints (l ++ m) = ints l ++ ints m := List.map_append
@[simp] theorem ints_length (l : List Int) : (ints l).length = l.length := List.length_map ..
theorem ints_get (l : List Int) (i : Nat) : (ints l)[i]? = l[i]?.map (.int .i64) := List.getElem?_map

/-- A list of numbers that can be read at p. -/
def Ints (w : World) (p : Option Addr) (xs : List Int) : Prop := ∀ i x, xs[i]? = some x → ∃ a, p = some a ∧ w.cell? (a.add i) = some (.int .i64 x)
theorem Ints.fr0 {w w' : World} {p : Option Addr} {xs : List Int} (h : Ints w p xs) (f : Fr (fun _ => False) w w') : Ints w' p xs := fun i x hx => by
  obtain ⟨a, h1, h2⟩ := h i x hx
  exact ⟨a, h1, by rw [f.cell (cell_lt h2) id]; exact h2⟩
theorem Own.ints {w : World} {e : TypeId} {p : Option Addr} {l c : Nat} {xs : List Int} (h : Own w e p l c (ints xs)) : Ints w p xs := fun i x hx => by
  have hl : xs.length = l := by simpa using h.1
  have hi : i < xs.length := (List.getElem?_eq_some_iff.1 hx).1
  obtain ⟨q, rest, rfl, _, _, _⟩ := h.get (by omega)
  exact ⟨_, rfl, by rw [add_mk, Nat.zero_add, h.cell (by omega), ints_get, hx]; rfl⟩
/-- A list of edges that can be read at p. -/
def Edges (w : World) (p : Option Addr) (es : List (Int × Int)) : Prop :=
  ∀ i q, es[i]? = some q → ∃ a, p = some a ∧ w.cell? ((a.add (i * 2)).add 0) = some (.int .i64 q.1) ∧ w.cell? ((a.add (i * 2)).add 1) = some (.int .i64 q.2)
theorem Edges.fr0 {w w' : World} {p : Option Addr} {xs : List (Int × Int)} (h : Edges w p xs) (f : Fr (fun _ => False) w w') : Edges w' p xs := fun i x hx => by
  obtain ⟨a, h1, h2, h3⟩ := h i x hx
  exact ⟨a, h1, by rw [f.cell (cell_lt h2) id]; exact h2, by rw [f.cell (cell_lt h3) id]; exact h3⟩

theorem take_snoc {α : Type} {l : List α} {i : Nat} {x : α} (h : l[i]? = some x) : l.take (i + 1) = l.take i ++ [x] := by
  rw [List.take_add_one, h]; rfl
/-- Edges as cells. -/
def flat : List (Int × Int) → List Value
  | [] => []
  | q :: l => .int .i64 q.1 :: .int .i64 q.2 :: flat l
theorem flat_length : ∀ l : List (Int × Int), (flat l).length = l.length * 2
  | [] => rfl
  | q :: l => by simp [flat, flat_length l]; omega
theorem flat_append : ∀ l m : List (Int × Int), flat (l ++ m) = flat l ++ flat m
  | [], _ => rfl
  | q :: l, m => by simp [flat, flat_append l m]
theorem flat_get : ∀ (l : List (Int × Int)) (i : Nat) (q : Int × Int), l[i]? = some q → (flat l)[i * 2]? = some (.int .i64 q.1) ∧ (flat l)[i * 2 + 1]? = some (.int .i64 q.2)
  | [], _, _, h => by cases h
  | x :: l, 0, q, h => by simp at h; subst h; exact ⟨rfl, rfl⟩
  | x :: l, i + 1, q, h => by
    have := flat_get l i q (by simpa using h)
    rw [show (i + 1) * 2 = i * 2 + 1 + 1 by omega]
    simpa [flat] using this
theorem flat_one : ∀ (l : List (Int × Int)), ∀ u ∈ flat l, u.oneCell' = true
  | [], u, h => by cases h
  | q :: l, u, h => by
    simp only [flat, List.mem_cons] at h
    rcases h with rfl | rfl | h
    · rfl
    · rfl
    · exact flat_one l u h
theorem flat_read {w : World} {a : Addr} : ∀ (l : List (Int × Int)) (o : Nat), (∀ i q, l[i]? = some q → w.cell? (a.add ((o + i) * 2)) = some (.int .i64 q.1) ∧ w.cell? (a.add ((o + i) * 2 + 1)) = some (.int .i64 q.2)) → ∀ j u, (flat l)[j]? = some u → w.cell? (a.add (o * 2 + j)) = some u
  | [], _, _, j, u, h => by simp [flat] at h
  | q :: l, o, hc, 0, u, h => by
    simp [flat] at h; subst h
    have := (hc 0 q rfl).1
    simpa using this
  | q :: l, o, hc, 1, u, h => by
    simp [flat] at h; subst h
    have := (hc 0 q rfl).2
    simpa using this
  | q :: l, o, hc, j + 2, u, h => by
    have := flat_read l (o + 1) (fun i q h => by
      have := hc (i + 1) q (by simpa using h)
      rw [show o + 1 + i = o + (i + 1) by omega]; exact this) j u (by simpa [flat] using h)
    rw [show o * 2 + (j + 2) = (o + 1) * 2 + j by omega]; exact this
theorem add_add (a : Addr) (i j : Nat) : (a.add i).add j = a.add (i + j) := by
  by_cases hi : i = 0
  · subst hi; simp [Addr.add]
  · by_cases hj : j = 0
    · subst hj; simp [Addr.add, hi]
    · have : i + j ≠ 0 := by omega
      simp [Addr.add, hi, hj, this, Nat.add_assoc]

/-- A list of numbers of 16 bits. -/
def Shorts (w : World) (p : Option Addr) (xs : List Int) : Prop := ∀ i x, xs[i]? = some x → ∃ a, p = some a ∧ w.cell? (a.add i) = some (.int .i16 x)
theorem Shorts.fr0 {w w' : World} {p : Option Addr} {xs : List Int} (h : Shorts w p xs) (f : Fr (fun _ => False) w w') : Shorts w' p xs := fun i x hx => by
  obtain ⟨a, h1, h2⟩ := h i x hx
  exact ⟨a, h1, by rw [f.cell (cell_lt h2) id]; exact h2⟩
theorem Ints.fr {S : Nat → Prop} {w w' : World} {p : Option Addr} {xs : List Int} (h : Ints w p xs) (f : Fr S w w') (hS : ∀ b, bl p b → ¬ S b) : Ints w' p xs := fun i x hx => by
  obtain ⟨a, h1, h2⟩ := h i x hx
  subst h1
  have hb : (a.add i).block = a.block := by unfold Addr.add; split <;> rfl
  exact ⟨a, rfl, by rw [f.cell (cell_lt h2) (by rw [hb]; exact hS _ ⟨_, rfl, rfl⟩)]; exact h2⟩
theorem Ints.lt {w : World} {p : Option Addr} {xs : List Int} (h : Ints w p xs) (h0 : 0 < xs.length) {b : Nat} (hb : bl p b) : b < w.heap.size := by
  obtain ⟨a, rfl, rfl⟩ := hb
  obtain ⟨a', ha, hc⟩ := h 0 _ (List.getElem?_eq_getElem h0)
  cases ha
  have h1 := cell_lt hc
  have h2 : (a.add 0).block = a.block := by unfold Addr.add; split <;> rfl
  rw [h2] at h1; exact h1
theorem OwnN.pairs {w : World} {e : TypeId} {p : Option Addr} {l c : Nat} {es : List (Int × Int)} (h : OwnN w e 2 p l c (flat es)) : Edges w p es := fun i q hq => by
  have hl := h.1
  rw [flat_length] at hl
  have hi : i < es.length := (List.getElem?_eq_some_iff.1 hq).1
  obtain ⟨b, rest, rfl, _⟩ := h.get (by omega)
  obtain ⟨h1, h2⟩ := flat_get es i q hq
  refine ⟨_, rfl, ?_, ?_⟩
  · rw [add_mk, add_mk, Nat.zero_add, h.cell (by omega)]; exact h1
  · rw [add_mk, add_mk, Nat.zero_add, h.cell (by omega)]; exact h2
theorem IfaceNil_iface {t : TypeId} {v : Value} {f : Bool → W} : IfaceNil (.iface t v) f = f false := rfl
theorem IfaceNil_nil {f : Bool → W} : IfaceNil .nilIface f = f true := rfl
theorem add_one {i : Nat} (h : i < 4294967296) : addI .i64 (i : Nat) 1 = ((i + 1 : Nat) : Int) := by rw [addI_i64 (by omega) (by omega)]; simp
theorem zero_of {P : Program} {t : TypeId} {i : TypeInfo} {z : Value} (h1 : P.info? t = some i) (h2 : i.zero = some z) (w : World) : (zeroValue t).run P w = .ok z w := by simp [zeroValue, typeInfo, h1, h2]
end Go.Proofs.YtfokodpnoiilbaaGreat.E
