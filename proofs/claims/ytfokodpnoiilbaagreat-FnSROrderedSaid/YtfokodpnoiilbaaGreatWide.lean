/-
  Slices whose elements take several cells: literals, appended slices.
-/
import Derived.Test.YtfokodpnoiilbaaGreatMap
import Derived.Great.BuildSlice
namespace Go.Proofs.YtfokodpnoiilbaaGreat.E
open Go

/-- A slice that the running code made itself, its elements of sz cells each. -/
def OwnN (w : World) (e : TypeId) (sz : Nat) (p : Option Addr) (l c : Nat) (vs : List Value) : Prop :=
  vs.length = l * sz ∧ ((p = none ∧ l = 0 ∧ c = 0) ∨ ∃ q rest, p = some ⟨q, 0, none⟩ ∧ Blk w q e (vs ++ rest) ∧ (vs ++ rest).length = c * sz ∧ l ≤ c ∧ c ≤ maxLen)

namespace OwnN
variable {w : World} {e : TypeId} {sz : Nat} {p : Option Addr} {l c : Nat} {vs : List Value}
theorem nil (w : World) (e : TypeId) (sz : Nat) : OwnN w e sz none 0 0 [] := ⟨by simp, .inl ⟨rfl, rfl, rfl⟩⟩
theorem fr {S : Nat → Prop} {w' : World} (h : OwnN w e sz p l c vs) (f : Fr S w w') (hS : ∀ b, bl p b → ¬ S b) : OwnN w' e sz p l c vs := by
  refine ⟨h.1, h.2.imp id ?_⟩
  rintro ⟨q, rest, rfl, hb, hc, hlc, hm⟩
  exact ⟨q, rest, rfl, hb.fr f (hS q ⟨_, rfl, rfl⟩), hc, hlc, hm⟩
theorem owns (h : OwnN w e sz p l c vs) : w.ownsRow 0 e sz (.slice p l c) l vs := by
  refine ⟨h.1, ?_⟩
  rcases h.2 with ⟨rfl, rfl, rfl⟩ | ⟨q, rest, rfl, hb, hc, hlc, hm⟩
  · exact .inl ⟨rfl, rfl⟩
  · refine .inr ⟨q, c, _, rfl, Nat.zero_le _, hb, hlc, hm, by simpa using hc, ?_⟩
    rw [← h.1]; simp
theorem of {base : Nat} {v : Value} {n : Nat} {xs : List Value} (h : w.ownsRow base e sz v n xs) : ∃ p c, v = .slice p n c ∧ OwnN w e sz p n c xs ∧ ∀ b, bl p b → base ≤ b := by
  have h1 := h.1
  rcases h.2 with ⟨rfl, rfl⟩ | ⟨g, cap, cur, rfl, hb, hg, hn, hc, hs, ht⟩
  · exact ⟨none, 0, rfl, ⟨h1, .inl ⟨rfl, rfl, rfl⟩⟩, fun b ⟨a, h, _⟩ => by cases h⟩
  · refine ⟨_, cap, rfl, ⟨h1, .inr ⟨g, cur.toList.drop (n * sz), rfl, ?_, ?_, hn, hc⟩⟩, fun b ⟨a, h, e⟩ => by cases h; exact e ▸ hb⟩
    · unfold Blk; rw [← ht, List.take_append_drop, Array.toArray_toList]; exact hg
    · rw [← ht, List.take_append_drop, Array.length_toList, hs]
theorem lt (h : OwnN w e sz p l c vs) {b : Nat} (hb : bl p b) : b < w.heap.size := by
  obtain ⟨a, rfl, rfl⟩ := hb
  rcases h.2 with ⟨h, _⟩ | ⟨q, rest, h, hb, _⟩
  · cases h
  · cases h; exact hb.lt
theorem get (h : OwnN w e sz p l c vs) (hl : 0 < l) : ∃ q rest, p = some ⟨q, 0, none⟩ ∧ Blk w q e (vs ++ rest) := by
  rcases h.2 with ⟨_, h, _⟩ | ⟨q, rest, h1, h2, _⟩
  · omega
  · exact ⟨q, rest, h1, h2⟩
theorem cell {q : Nat} (h : OwnN w e sz (some ⟨q, 0, none⟩) l c vs) {i : Nat} (hi : i < l * sz) : w.cell? ⟨q, i, none⟩ = vs[i]? := by
  rcases h.2 with ⟨h, _⟩ | ⟨q', rest, h', hb, _⟩
  · cases h
  · cases h'; rw [hb.cell, List.getElem?_append_left (by rw [h.1]; exact hi)]
theorem made {q n : Nat} (h : Blk w q e vs) (hl : vs.length = n * sz) (hn : n ≤ maxLen) : OwnN w e sz (some ⟨q, 0, none⟩) n n vs :=
  ⟨hl, .inr ⟨q, [], rfl, by simpa using h, by simpa using hl, Nat.le_refl _, hn⟩⟩
end OwnN

section
variable {P : Program}
theorem build_intro {t e : TypeId} {ie : TypeInfo} {z : Value} {n : Nat} {parts : Array (Nat × Value)} {cells : List Value} {f : Option Addr → Nat → Nat → W} {w : World}
    (hu : P.underlying t = some (.slice e)) (hie : P.info? e = some ie) (hz : ie.zero = some z) (hsmall : ¬ n * ie.size > 2 ^ 24) (hpos : ¬ n * ie.size = 0)
    (h : Instr.fill (fun i => some (i * ie.size, ie.size)) ((Array.range (n * ie.size)).map (z.cells[· % z.cells.size]!)) parts.toList = some cells.toArray)
    (hk : ∀ w', Fr (fun _ => False) w w' → Blk w' w.heap.size e cells → w'.heap.size = w.heap.size + 1 → f (some ⟨w.heap.size, 0, none⟩) n n w') :
    RawT P (Instr.buildSlice t n parts) (.s (.one .slice)) f w :=
  RawT_slice (run_buildSlice w t e n parts cells.toArray ie z hu hie hz hsmall hpos h) (hk _ (Fr.alloc _ _ _) (Blk.new' _ _ _) (by simp))
theorem build_none {t e : TypeId} {ie : TypeInfo} {f : Option Addr → Nat → Nat → W} {w : World}
    (hu : P.underlying t = some (.slice e)) (hie : P.info? e = some ie)
    (hk : ∀ w', Fr (fun _ => False) w w' → Blk w' w.heap.size e [] → w'.heap.size = w.heap.size + 1 → f (some ⟨w.heap.size, 0, none⟩) 0 0 w') :
    RawT P (Instr.buildSlice t 0 #[]) (.s (.one .slice)) f w :=
  RawT_slice (w' := w.alloc (.cells #[] e)) (by simp [Instr.buildSlice, run_underlying hu, sizeOf, typeInfo, hie, Instr.fill, newRow]; congr 2; exact Array.eq_empty_of_size_eq_zero (by simp)) (hk _ (Fr.alloc _ _ _) (Blk.new' _ [] _) (by simp))
theorem append_own {t e : TypeId} {i : TypeInfo} {z : Value} {ty : TypeId} {cs : Array Bool} {sz : Nat} {f : Option Addr → Nat → Nat → W} {w : World} {p : Option Addr} {l c m d : Nat} {a : Addr} {vs news : List Value}
    (ht : P.underlying t = some (.slice e)) (hi : P.info? e = some i) (hz : i.zero = some z) (hs : i.size = sz) (hpos : 0 < sz) (hzc : z.cells.size = sz) (hb : i.bytes ≤ 4096)
    (hown : OwnN w e sz p l c vs) (hl : news.length = m * sz) (hnews : ∀ j u, news[j]? = some u → w.cell? (a.add j) = some u) (h1 : ∀ u ∈ news, u.oneCell' = true) (hlm : l + m < 4294967296)
    (hk : ∀ p' c' w', Fr (fun b => bl p b) w w' → OwnN w' e sz p' (l + m) c' (vs ++ news) → (∀ b, bl p' b → bl p b ∨ w.heap.size ≤ b) → f p' (l + m) c' w') :
    NextT P (builtin .append #[t, t] ty cs [.slice p l c, .slice (some a) m d].toArray) (.s (.one .slice)) f w := by
  have hbytes : (l + m) * i.bytes ≤ 140737488355328 := by
    have := Nat.mul_le_mul (show l + m ≤ 4294967296 by omega) hb; omega
  have hmax : l + m ≤ maxLen := by simp only [maxLen]; omega
  have fin : ∀ {v' w' row}, (Builtin.append_ #[t, t] ty #[.slice p l c, .slice (some a) m d]).run P w = .ok v' w' → (∃ base, w'.ownsRow base e sz v' (l + m) (vs ++ news) ∧ ((∃ c', v' = .slice p (l + m) c') ∨ w.heap.size ≤ base)) → w.grownBy w' row → (∀ b, row = some b → bl p b) →
      NextT P (builtin .append #[t, t] ty cs [.slice p l c, .slice (some a) m d].toArray) (.s (.one .slice)) f w := by
    intro v' w' row hr ⟨base, ho, hbase⟩ hg hrow
    obtain ⟨p', c', rfl, ho', hb'⟩ := OwnN.of ho
    refine NextT_slice (builtin_append hr) (hk _ _ _ ?_ ho' ?_)
    · exact (fr_of_grownBy hg).mono fun b h => .inl (hrow b h)
    · intro b hb2
      rcases hbase with ⟨c2, h⟩ | h
      · cases h; exact .inl hb2
      · exact .inr (Nat.le_trans h (hb' b hb2))
  rcases hown.2 with ⟨rfl, rfl, rfl⟩ | ⟨q, rest, rfl, hB, hc, hlc, hm⟩
  · have hvs : vs = [] := List.length_eq_zero_iff.1 (by rw [hown.1]; simp)
    subst hvs
    obtain ⟨v', w', hr, ho, hg, _⟩ := run_append_own (P := P) w w.heap.size t ty e i z sz i.bytes ht hi hz hs rfl hzc hpos (.slice none 0 0) 0 [] (World.ownsRow_nil _ _ _ _) a m d news hl hnews h1 hmax hbytes (Nat.le_refl _)
    exact fin hr ⟨_, ho, .inr (Nat.le_refl _)⟩ hg (fun b h => by cases h)
  · have ho := hown.owns
    by_cases hroom : l + m ≤ c
    · obtain ⟨w', hr, ho', hg⟩ := run_append_fits (P := P) w 0 t ty e i sz ht hi hs q l c vs ho a m d news hl hnews h1 hroom
      exact fin hr ⟨_, ho', .inl ⟨_, rfl⟩⟩ hg (fun b h => by cases h; exact ⟨_, rfl, rfl⟩)
    · have hcells : ∀ j u, vs[j]? = some u → w.cell? ((⟨q, 0, none⟩ : Addr).add j) = some u := by
        intro j u hu
        have hj : j < l * sz := by rw [← hown.1]; exact (List.getElem?_eq_some_iff.1 hu).1
        rw [add_mk, Nat.zero_add, hown.cell hj]; exact hu
      obtain ⟨v', w', hr, ho', hg⟩ := run_append_arg_grows (P := P) w t ty e i z sz i.bytes ht hi hz hs rfl hzc hpos ⟨q, 0, none⟩ l c vs hown.1 hcells a m d news hl hnews (by omega) hmax hbytes
      exact fin hr ⟨_, ho', .inr (Nat.le_refl _)⟩ hg (fun b h => by cases h)
end
end Go.Proofs.YtfokodpnoiilbaaGreat.E
