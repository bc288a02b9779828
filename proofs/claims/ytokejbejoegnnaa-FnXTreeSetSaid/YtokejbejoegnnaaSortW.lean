/-
  What the kit's contracts of the library's sorts leave, in the words of whole blocks; lists that are sorted alike.
-/
import Derived.Test.YtokejbejoegnnaaBlk
import Derived.Sort.Grow
namespace Go.Proofs.Ytokejbejoegnnaa.E
open Go Go.Sort

theorem onCells_cells (f : Array Value → Array Value) (c : Array Value) (t : TypeId) (fr : Nat × Nat) : onCells f (.cells c t fr) = .cells (f c) t fr := rfl
theorem blk_sorted {α : Type} [Inhabited α] {w : World} {b t n : Nat} {os : Array Obj} {enc : α → Value} {xs ys : List α} {rest : List Value} (h : Blk w b t (xs.map enc ++ rest)) (hl : ys.length = xs.length) :
    Blk (grow (putRow enc (Sort.ahead w n) b 0 ys.toArray) os) b t (ys.map enc ++ rest) ∧ Fr (fun x => x = b) w (grow (putRow enc (Sort.ahead w n) b 0 ys.toArray) os) := by
  have hlt := h.lt
  refine ⟨?_, rfl, rfl, rfl, by simp, fun x hx hS => ?_⟩
  · unfold Blk at h ⊢
    rw [heap_grow_old _ _ (by simpa using hlt)]
    show ((Sort.ahead w n).heap.modify b (onCells (putCells enc 0 ys.toArray)))[b]? = _
    rw [Array.getElem?_modify, if_pos rfl]
    show (w.heap[b]?).map _ = _
    rw [h]
    simp only [Option.map_some, onCells_cells]
    congr 2
    apply Array.ext
    · simp [putCells, hl]
    · intro i h1 h2
      simp only [putCells, Array.getElem_mapIdx, Nat.zero_le, true_and, Nat.zero_add, Nat.sub_zero, List.size_toArray, List.getElem_toArray]
      by_cases hi : i < ys.length
      · rw [if_pos hi, List.getElem_append_left (by simpa using hi), List.getElem_map]
        rw [getElem!_pos _ i (by simpa using hi)]; simp
      · rw [if_neg hi, List.getElem_append_right (by simp; omega), List.getElem_append_right (by simp; omega)]
        simp [hl]
  · rw [heap_grow_old _ _ (by simpa using hx)]
    show ((Sort.ahead w n).heap.modify b (onCells (putCells enc 0 ys.toArray)))[x]? = _
    rw [Array.getElem?_modify, if_neg (fun e => hS e.symm)]
    rfl
theorem holds_of {α : Type} [Inhabited α] {w : World} {b t : Nat} {enc : α → Value} {xs : List α} {rest : List Value} (h : Blk w b t (xs.map enc ++ rest)) : Holds enc w b 0 xs.toArray := fun j hj => by
  have hj' : j < xs.length := by simpa using hj
  rw [Nat.zero_add]
  refine ⟨?_, h.frozen j⟩
  rw [h.cell, List.getElem?_append_left (by simpa using hj'), List.getElem?_map, List.getElem?_eq_getElem hj', getElem!_pos _ j (by simpa using hj')]
  simp

/-- Two ascending lists of the same numbers are the same. -/
theorem asc_eq : ∀ {xs ys : List Int}, xs.Pairwise (· ≤ ·) → ys.Pairwise (· ≤ ·) → xs.Perm ys → xs = ys
  | [], ys, _, _, h => (List.nil_perm.1 h).symm
  | x :: xs, [], _, _, h => by have := h.length_eq; simp at this
  | x :: xs, y :: ys, h1, h2, h => by
    have a := List.pairwise_cons.1 h1
    have b := List.pairwise_cons.1 h2
    have e : x = y := by
      have mx : x ∈ y :: ys := h.mem_iff.1 (List.mem_cons_self ..)
      have my : y ∈ x :: xs := h.mem_iff.2 (List.mem_cons_self ..)
      rcases List.mem_cons.1 mx with e | mx
      · exact e
      · rcases List.mem_cons.1 my with e | my
        · exact e.symm
        · have h3 := a.1 y my
          have h4 := b.1 x mx
          omega
    subst e
    rw [asc_eq a.2 b.2 (List.Perm.cons_inv h)]
def srt (xs : List Int) : List Int := xs.mergeSort fun x y => decide (x ≤ y)
theorem srt_perm (xs : List Int) : (srt xs).Perm xs := List.mergeSort_perm xs _
theorem srt_asc (xs : List Int) : (srt xs).Pairwise (· ≤ ·) := by
  have := List.pairwise_mergeSort (le := fun x y : Int => decide (x ≤ y)) (fun a b c h1 h2 => by simp at *; omega) (fun a b => by simp; omega) xs
  exact this.imp (by simp)
theorem srt_eq {xs ys : List Int} (h : xs.Perm ys) : srt xs = srt ys := asc_eq (srt_asc _) (srt_asc _) ((srt_perm xs).trans (h.trans (srt_perm ys).symm))
theorem srt_len (xs : List Int) : (srt xs).length = xs.length := (srt_perm xs).length_eq
end Go.Proofs.Ytokejbejoegnnaa.E
