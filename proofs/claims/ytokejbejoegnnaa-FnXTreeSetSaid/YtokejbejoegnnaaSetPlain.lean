/-
  Sets of numbers as plain lists in the order of coming: added, removed, added and removed again.
-/
import Derived.Tactics
namespace Go.Proofs.Ytokejbejoegnnaa.E

def addK (s : List Int) (x : Int) : List Int := if x ∈ s then s else s ++ [x]
def addAll (s : List Int) : List Int → List Int
  | [] => s
  | x :: l => addAll (addK s x) l
def remAll (s : List Int) : List Int → List Int
  | [] => s
  | x :: l => remAll (s.erase x) l
theorem addAll_snoc : ∀ (l : List Int) (x : Int) (s : List Int), addAll s (l ++ [x]) = addK (addAll s l) x
  | [], _, _ => rfl
  | y :: l, x, s => by simp only [List.cons_append, addAll, addAll_snoc l]
theorem remAll_snoc : ∀ (l : List Int) (x : Int) (s : List Int), remAll s (l ++ [x]) = (remAll s l).erase x
  | [], _, _ => rfl
  | y :: l, x, s => by simp only [List.cons_append, remAll, remAll_snoc l]
theorem addK_mem {s : List Int} {x y : Int} : y ∈ addK s x ↔ y ∈ s ∨ y = x := by
  unfold addK
  split
  · rename_i h; exact ⟨.inl, fun h' => h'.elim id (fun e => e ▸ h)⟩
  · simp
theorem addK_nodup {s : List Int} (h : s.Nodup) (x : Int) : (addK s x).Nodup := by
  unfold addK
  split
  · exact h
  · rename_i hx
    rw [List.nodup_append]; exact ⟨h, by simp, by intro a ha b hb; simp at hb; subst hb; exact fun e => hx (e ▸ ha)⟩
theorem addAll_nodup : ∀ (l : List Int) {s : List Int}, s.Nodup → (addAll s l).Nodup
  | [], _, h => h
  | x :: l, _, h => addAll_nodup l (addK_nodup h x)
theorem addAll_mem : ∀ (l : List Int) {s : List Int} {y : Int}, y ∈ addAll s l ↔ y ∈ s ∨ y ∈ l
  | [], _, _ => by simp [addAll]
  | x :: l, s, y => by
    simp only [addAll, addAll_mem l, addK_mem, List.mem_cons, or_assoc]
theorem remAll_nodup : ∀ (l : List Int) {s : List Int}, s.Nodup → (remAll s l).Nodup
  | [], _, h => h
  | x :: l, _, h => remAll_nodup l (h.erase x)
theorem remAll_mem : ∀ (l : List Int) {s : List Int} {y : Int}, s.Nodup → (y ∈ remAll s l ↔ y ∈ s ∧ y ∉ l)
  | [], _, _, _ => by simp [remAll]
  | x :: l, s, y, h => by
    rw [remAll, remAll_mem l (h.erase x), h.mem_erase_iff]
    simp only [List.mem_cons, not_or]
    exact ⟨fun ⟨⟨a, b⟩, c⟩ => ⟨b, a, c⟩, fun ⟨b, a, c⟩ => ⟨⟨a, b⟩, c⟩⟩
theorem addAll_len : ∀ (l s : List Int), (addAll s l).length ≤ s.length + l.length
  | [], s => by simp [addAll]
  | x :: l, s => by
    have h1 : (addK s x).length ≤ s.length + 1 := by unfold addK; split <;> simp
    have := addAll_len l (addK s x)
    simp only [addAll, List.length_cons]; omega
theorem remAll_len : ∀ (l s : List Int), (remAll s l).length ≤ s.length
  | [], s => by simp [remAll]
  | x :: l, s => by
    have h1 : (s.erase x).length ≤ s.length := List.length_erase_le
    have := remAll_len l (s.erase x)
    simp only [remAll]; omega
/-- What is there already is added in vain. -/
theorem addAll_again : ∀ (l : List Int) {s : List Int}, (∀ x ∈ l, x ∈ s) → addAll s l = s
  | [], _, _ => rfl
  | x :: l, s, h => by
    have e : addK s x = s := by unfold addK; rw [if_pos (h x (List.mem_cons_self ..))]
    rw [addAll, e]; exact addAll_again l fun y hy => h y (List.mem_cons_of_mem _ hy)
theorem remAll_again : ∀ (l : List Int) {s : List Int}, (∀ x ∈ l, x ∉ s) → remAll s l = s
  | [], _, _ => rfl
  | x :: l, s, h => by
    rw [remAll, List.erase_of_not_mem (h x (List.mem_cons_self ..))]; exact remAll_again l fun y hy => h y (List.mem_cons_of_mem _ hy)
theorem once (x y : List Int) : remAll (remAll (addAll (addAll [] x) x) y) y = remAll (addAll [] x) y := by
  rw [addAll_again x fun a ha => (addAll_mem x).2 (.inr ha)]
  exact remAll_again y fun a ha h => ((remAll_mem y (addAll_nodup x List.nodup_nil)).1 h).2 ha
/-- A step of the script: 1 adds, 2 removes, 3 clears, others leave. -/
def stepK (s : List Int) (op : Int) (items : List Int) : List Int := if op = 1 then addAll s items else if op = 2 then remAll s items else if op = 3 then [] else s
/-- The sets behind each step. -/
def runK (s : List Int) : List (Int × List Int) → List (List Int)
  | [] => []
  | p :: l => stepK s p.1 p.2 :: runK (stepK s p.1 p.2) l
def lastK (s : List Int) : List (Int × List Int) → List Int
  | [] => s
  | p :: l => lastK (stepK s p.1 p.2) l
theorem lastK_snoc : ∀ (l : List (Int × List Int)) (p : Int × List Int) (s : List Int), lastK s (l ++ [p]) = stepK (lastK s l) p.1 p.2
  | [], _, _ => rfl
  | q :: l, p, s => by simp only [List.cons_append, lastK, lastK_snoc l]
theorem runK_snoc : ∀ (l : List (Int × List Int)) (p : Int × List Int) (s : List Int), runK s (l ++ [p]) = runK s l ++ [stepK (lastK s l) p.1 p.2]
  | [], _, _ => rfl
  | q :: l, p, s => by simp only [List.cons_append, runK, lastK, runK_snoc l]
theorem runK_len : ∀ (l : List (Int × List Int)) (s : List Int), (runK s l).length = l.length
  | [], _ => rfl
  | q :: l, s => by simp [runK, runK_len l]
theorem stepK_nodup {s : List Int} (h : s.Nodup) (op : Int) (l : List Int) : (stepK s op l).Nodup := by
  unfold stepK
  split
  · exact addAll_nodup l h
  · split
    · exact remAll_nodup l h
    · split
      · exact List.nodup_nil
      · exact h
theorem stepK_len (s : List Int) (op : Int) (l : List Int) : (stepK s op l).length ≤ s.length + l.length := by
  unfold stepK
  split
  · exact addAll_len l s
  · split
    · have := remAll_len l s; omega
    · split
      · simp
      · omega
end Go.Proofs.Ytokejbejoegnnaa.E
