/-
  Slices with room: append in place, insertion in the middle, made slices that copies fill.
-/
import Derived.Test.YtofnapddoiodkaaRec
import Derived.Test.YtofnapddoiodkaaPtP
namespace Go.Proofs.Ytofnapddoiodkaa.E
open Go
set_option linter.unusedSimpArgs false
set_option linter.unusedVariables false

section
variable {P : Program}
/-- append of one element where there is room. -/
theorem append_room {t e : TypeId} {i : TypeInfo} {z : Value} {ty : TypeId} {cs : Array Bool} {f : Option Addr → Nat → Nat → W} {w : World} {q l c : Nat} {vs : List Value} {v : Value}
    (ht : P.underlying t = some (.slice e)) (hi : P.info? e = some i) (hz : i.zero = some z) (h1 : i.size = 1) (hzc : z.cells = #[z])
    (hown : Own w e (some ⟨q, 0, none⟩) l c vs) (hv : v.oneCell' = true) (hvc : v.cells = #[v]) (hl : l < c)
    (hk : ∀ w', Fr (fun b => b = q) w w' → Own w' e (some ⟨q, 0, none⟩) (l + 1) c (vs ++ [v]) → f (some ⟨q, 0, none⟩) (l + 1) c w') :
    RawT P (Instr.buildSlice t 1 [(0, v)].toArray) (.s (.one .slice)) (fun a m d => NextT P (builtin .append #[t, t] ty cs [.slice (some ⟨q, 0, none⟩) l c, .slice a m d].toArray) (.s (.one .slice)) f) w := by
  have hr : (Instr.buildSlice t 1 [(0, v)].toArray).run P w = .ok (.slice (some ⟨w.heap.size, 0, none⟩) 1 1) (w.alloc (.cells #[v] e)) := by
    simp [Instr.buildSlice, run_underlying ht, sizeOf, typeInfo, hi, h1, zeroValue, hz, hzc, Instr.fill, newRow, hvc]
    have hx : (Array.map (fun x => [z][x % 1]?.getD default) (Array.range 1)).setIfInBounds 0 v = #[v] := by
      apply Array.ext
      · simp
      · intro j h1 h2
        have hj : j = 0 := by simpa using h2
        subst hj
        simp
    rw [hx]
  refine RawT_slice hr ?_
  have f1 : Fr (fun _ => False) w (w.alloc (.cells #[v] e)) := Fr.alloc _ _ _
  have o1 : Own (w.alloc (.cells #[v] e)) e (some ⟨q, 0, none⟩) l c vs := hown.fr f1 fun _ _ h => h
  have b1 : Blk (w.alloc (.cells #[v] e)) w.heap.size e [v] := Blk.new _ _ _
  generalize w.alloc (.cells #[v] e) = w1 at *
  have hnews : ∀ j u, [v][j]? = some u → w1.cell? ((⟨w.heap.size, 0, none⟩ : Addr).add j) = some u := by
    intro j u h
    rw [add_mk, b1.cell]; simpa using h
  obtain ⟨w', hr, ho', hg⟩ := run_append_fits (P := P) w1 0 t ty e i 1 ht hi h1 q l c vs o1.owns ⟨w.heap.size, 0, none⟩ 1 1 [v] rfl hnews (by simpa using hv) (by omega)
  obtain ⟨p', c', hp, ho, hb'⟩ := Own.of ho'
  simp only [Value.slice.injEq, true_and] at hp
  obtain ⟨rfl, rfl⟩ := hp
  refine NextT_slice (builtin_append hr) (hk _ ?_ ho)
  exact (f1.mono (S' := fun b => b = q) fun _ h => h.elim).trans (fr_of_grownBy hg) fun b h => .inl (by cases h; rfl)
end
theorem Own.full {w : World} {e : TypeId} {q l c : Nat} {vs : List Value} (h : Own w e (some ⟨q, 0, none⟩) l c vs) : ∃ rest, Blk w q e (vs ++ rest) ∧ (vs ++ rest).length = c ∧ c ≤ maxLen := by
  rcases h.2 with ⟨h, _⟩ | ⟨q', rest, h', hb, hc, hm⟩
  · cases h
  · cases h'; exact ⟨rest, hb, hc, hm⟩
theorem Own.mk' {w : World} {e : TypeId} {q l c : Nat} {vs rest : List Value} (h : Blk w q e (vs ++ rest)) (hl : vs.length = l) (hc : (vs ++ rest).length = c) (hm : c ≤ maxLen) : Own w e (some ⟨q, 0, none⟩) l c vs :=
  ⟨hl, .inr ⟨q, rest, rfl, h, hc, hm⟩⟩
theorem chk {w : World} {b t i : Nat} {vs : List Value} {v : Value} {k : W} (h : Blk w b t vs) (hi : vs[i]? = some v) (hk : k w) : Chk1 ⟨b, i, none⟩ v k w := ⟨by rw [h.cell, hi], hk⟩
/-- What a slice of the middle of a block copies to the place behind itself: the way one element is put in. -/
theorem shift_in {α : Type} {l : List α} {x y : α} {i : Nat} (hi : i ≤ l.length) :
    (((l ++ [x]).take (i + 1)) ++ l.drop i ++ (l ++ [x]).drop (i + 1 + (l.drop i).length)).set i y = l.take i ++ y :: l.drop i := by
  have e3 : (l ++ [x]).drop (i + 1 + (l.drop i).length) = [] := List.drop_eq_nil_of_le (by simp; omega)
  rw [e3, List.append_nil]
  by_cases h : i < l.length
  · have e1 : (l ++ [x]).take (i + 1) = l.take i ++ [l[i]] := by
      rw [List.take_append_of_le_length (by omega), List.take_add_one, List.getElem?_eq_getElem h]; rfl
    rw [e1, List.append_assoc, List.set_append_right _ _ (by simp; omega), List.length_take]
    rw [show i - min i l.length = 0 by omega]; rfl
  · have : i = l.length := by omega
    subst this
    rw [List.take_of_length_le (by simp), List.drop_length, List.append_nil, List.set_append_right _ _ (by simp), List.take_length]
    simp
end Go.Proofs.Ytofnapddoiodkaa.E
