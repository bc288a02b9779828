/-
  FnBAParts: the walk.
-/
import Derived.Test.YtooejhmelodiaaaBaZ
import Derived.Test.YtooejhmelodiaaaRow
import Derived.Laws.Small
namespace Go.Proofs.Ytooejhmelodiaaa.E
open Go
set_option linter.unusedSimpArgs false
set_option linter.unusedVariables false
set_option maxRecDepth 100000
set_option maxHeartbeats 8000000

/-! ## Plain -/
theorem merge_len : ∀ (n : Nat) (P Q : Sp), P.length + Q.length ≤ n → (andM P Q).length ≤ P.length ∧ (nandM P Q).length ≤ P.length
  | _, [], Q, _ => by rw [andM_nil', nandM_nil']; exact ⟨Nat.le_refl _, Nat.le_refl _⟩
  | _, (i, b) :: P, [], _ => by rw [andM_nil, nandM_nil]; exact ⟨Nat.zero_le _, Nat.le_refl _⟩
  | 0, (i, b) :: P, (j, c) :: Q, hn => by simp at hn
  | n + 1, (i, b) :: P, (j, c) :: Q, hn => by
    simp only [List.length_cons] at hn
    have hcn : ∀ (x : Nat) (R : Sp), R.length ≤ P.length → (cn i x R).length ≤ ((i, b) :: P).length := fun x R h => by
      unfold cn; split <;> simp <;> omega
    rw [andM, nandM]
    by_cases h1 : j < i
    · rw [if_pos h1, if_pos h1]
      exact merge_len n _ Q (by simp; omega)
    · rw [if_neg h1, if_neg h1]
      by_cases h2 : i < j
      · rw [if_pos h2, if_pos h2]
        obtain ⟨g1, g2⟩ := merge_len n P ((j, c) :: Q) (by simp; omega)
        exact ⟨by simp; omega, by simp; omega⟩
      · rw [if_neg h2, if_neg h2]
        obtain ⟨g1, g2⟩ := merge_len n P Q (by omega)
        exact ⟨hcn _ _ g1, hcn _ _ g2⟩
def set1 (P : Sp) (x : Nat) : Sp := setP (x % 1152921504606846976 / 64) (2 ^ (x % 1152921504606846976 % 64)) P
def sets (X : List Nat) (P : Sp) : Sp := X.foldl set1 P
theorem set1_good {P : Sp} (h : Good P) (x : Nat) : Good (set1 P x) ∧ (set1 P x).length ≤ P.length + 1 ∧ set1 P x ≠ [] := by
  refine ⟨setP_good h (Nat.pow_pos (by decide)) (pow_lt (Nat.mod_lt _ (by decide))) (by omega), setP_len h.s, ?_⟩
  unfold set1 setP
  intro e
  have := congrArg List.length e
  simp at this
theorem sets_good : ∀ (X : List Nat) (P : Sp), Good P → Good (sets X P) ∧ (sets X P).length ≤ P.length + X.length ∧ (X ≠ [] → sets X P ≠ [])
  | [], P, h => ⟨h, Nat.le_refl _, fun h => absurd rfl h⟩
  | x :: X, P, h => by
    obtain ⟨g1, g2, g3⟩ := set1_good h x
    obtain ⟨a1, a2, a3⟩ := sets_good X (set1 P x) g1
    refine ⟨a1, by show (sets X (set1 P x)).length ≤ _; simp; omega, fun _ => ?_⟩
    by_cases hX : X = []
    · subst hX; exact g3
    · exact a3 hX
theorem pg_set {Ps : List Sp} {i : Nat} {Q : Sp} (h : i < Ps.length) : pg (Ps.set i Q) i = Q := by
  unfold pg; rw [List.getD_eq_getElem?_getD, List.getElem?_set, if_pos rfl, if_pos h]; rfl
theorem set_pg {Ps : List Sp} {i : Nat} (h : i < Ps.length) : Ps.set i (pg Ps i) = Ps := by
  apply List.ext_getElem?
  intro j
  rw [List.getElem?_set]
  by_cases e : i = j
  · subst e; rw [if_pos rfl, if_pos h, pg_get h]
  · rw [if_neg e]
theorem sets_run : ∀ (X : List Nat) (Ps : List Sp) (on : Nat) (rest : List BS), on < Ps.length → (∀ P ∈ Ps, Good P ∧ P.length + X.length < 1000) → Ps.length < 1000 →
    (OkR true (Ps.set on (sets X (pg Ps on))) rest → OkR true Ps (X.map (setS on) ++ rest)) ∧ runP Ps (X.map (setS on)) = Ps.set on (sets X (pg Ps on))
  | [], Ps, on, rest, hon, hg, hl => by
    have e : Ps.set on (sets [] (pg Ps on)) = Ps := set_pg hon
    rw [e]; exact ⟨fun h => h, rfl⟩
  | x :: X, Ps, on, rest, hon, hg, hl => by
    have hst : stepP Ps (setS on x) = Ps.set on (set1 (pg Ps on) x) := rfl
    have hgo := hg (pg Ps on) (List.mem_of_getElem? (pg_get hon))
    obtain ⟨g1, g2, _⟩ := set1_good hgo.1 x
    obtain ⟨a1, a2⟩ := sets_run X (Ps.set on (set1 (pg Ps on) x)) on rest (by rw [List.length_set]; exact hon) (fun P hP => by
      rcases List.mem_or_eq_of_mem_set hP with h | rfl
      · have := hg P h; simp at this; exact ⟨this.1, by omega⟩
      · have := hgo.2; simp at this; exact ⟨g1, by omega⟩) (by rw [List.length_set]; exact hl)
    rw [pg_set hon, List.set_set] at a1 a2
    refine ⟨fun h => ?_, ?_⟩
    · show OkR true Ps (setS on x :: (X.map (setS on) ++ rest))
      refine ⟨⟨fun P hP => ?_, hl, .inr (.inl ⟨rfl, rfl, hon, Nat.mod_lt _ (by decide)⟩)⟩, ?_⟩
      · have := hg P hP; simp at this; exact ⟨this.1, by omega⟩
      · rw [hst]; exact a1 h
    · show runP (stepP Ps (setS on x)) (X.map (setS on)) = _
      rw [hst]; exact a2
theorem runA_app : ∀ (a b : List BS) (Ps : List Sp), runA Ps (a ++ b) = runA Ps a ++ runA (runP Ps a) b
  | [], b, Ps => rfl
  | s :: a, b, Ps => by show _ :: runA _ (a ++ b) = _ :: _; rw [runA_app a b]; rfl
theorem runP_app (a b : List BS) (Ps : List Sp) : runP Ps (a ++ b) = runP (runP Ps a) b := List.foldl_append ..
def tail9 : List BS := [⟨12, 0, 1, 0⟩, ⟨13, 0, 1, 0⟩, ⟨11, 2, 3, 0⟩, ⟨12, 2, 3, 0⟩, ⟨14, 0, 0, 0⟩, ⟨14, 4, 0, 0⟩, ⟨10, 5, 0, 0⟩, ⟨10, 2, 0, 0⟩, ⟨10, 3, 0, 0⟩]
def allS (A B : List Nat) : List BS := madeS 0 A ++ madeS 1 B ++ tail9
theorem all_run {A B : List Nat} (hA : A.length ≤ 20) (hB : B.length ≤ 20) : OkR true [] (allS A B) ∧ ∃ pre, runA [] (allS A B) = pre ++ [⟨false, 0, nums (sets A [])⟩, ⟨false, 0, nums (sets A [])⟩, ⟨false, 0, []⟩, ⟨false, tot (andM (sets A []) (sets B [])), []⟩, ⟨false, tot (nandM (sets A []) (sets B [])), []⟩] ∧ pre.length = A.length + B.length + 6 := by
  obtain ⟨gx, lx, _⟩ := sets_good A [] Good.nil
  obtain ⟨gy, ly, _⟩ := sets_good B [] Good.nil
  generalize hx : sets A [] = x at *
  generalize hy : sets B [] = y at *
  simp only [List.length_nil, Nat.zero_add] at lx ly
  obtain ⟨ga, gn, _⟩ := merge_good _ x y (Nat.le_refl _) gx gy
  obtain ⟨la, ln⟩ := merge_len _ x y (Nat.le_refl _)
  obtain ⟨p1, p2, p3⟩ := parts _ x y (Nat.le_refl _) gx gy
  have r1 : runP [] (madeS 0 A) = [x] := by
    show runP [[]] (A.map (setS 0)) = _
    rw [(sets_run A [[]] 0 [] (by decide) (fun P hP => by
      rw [List.mem_singleton] at hP; subst hP; exact ⟨Good.nil, by simp; omega⟩) (by decide)).2]
    show [sets A []] = _
    rw [hx]
  have r2 : runP [x] (madeS 1 B) = [x, y] := by
    show runP [x, []] (B.map (setS 1)) = _
    rw [(sets_run B [x, []] 1 [] (by simp) (fun P hP => by
      simp only [List.mem_cons, List.not_mem_nil, or_false] at hP
      rcases hP with rfl | rfl
      · exact ⟨gx, by omega⟩
      · exact ⟨Good.nil, by simp; omega⟩) (by simp)).2]
    show [x, sets B []] = _
    rw [hy]
  have hall : ∀ P, P = x ∨ P = y ∨ P = andM x y ∨ P = nandM x y ∨ P = [] → Good P ∧ P.length < 1000 := fun P h => by
    rcases h with rfl | rfl | rfl | rfl | rfl
    · exact ⟨gx, by omega⟩
    · exact ⟨gy, by omega⟩
    · exact ⟨ga, by omega⟩
    · exact ⟨gn, by omega⟩
    · exact ⟨Good.nil, by simp⟩
  have ok9 : OkR true [x, y] tail9 := by
    refine ⟨⟨fun P hP => hall P (by simp at hP; rcases hP with h | h <;> simp [h]), by simp, .inr (.inr (.inl ⟨.inr (.inl rfl), by simp, by simp⟩))⟩, ?_⟩
    show OkR true [x, y, andM x y] _
    refine ⟨⟨fun P hP => hall P (by simp at hP; rcases hP with h | h | h <;> simp [h]), by simp, .inr (.inr (.inl ⟨.inr (.inr rfl), by simp, by simp⟩))⟩, ?_⟩
    show OkR true [x, y, andM x y, nandM x y] _
    refine ⟨⟨fun P hP => hall P (by simp at hP; rcases hP with h | h | h | h <;> simp [h]), by simp, .inr (.inr (.inl ⟨.inl rfl, by simp, by simp⟩))⟩, ?_⟩
    show OkR true [x, y, andM x y, nandM x y, orM (andM x y) (nandM x y)] _
    rw [p1]
    refine ⟨⟨fun P hP => hall P (by simp at hP; rcases hP with h | h | h | h | h <;> simp [h]), by simp, .inr (.inr (.inl ⟨.inr (.inl rfl), by simp, by simp⟩))⟩, ?_⟩
    show OkR true [x, y, andM x y, nandM x y, x, andM (andM x y) (nandM x y)] _
    rw [p2]
    have h6 : ∀ P ∈ [x, y, andM x y, nandM x y, x, []], Good P ∧ P.length < 1000 := fun P hP => hall P (by simp at hP; rcases hP with h | h | h | h | h | h <;> simp [h])
    generalize andM x y = u at h6 ⊢
    generalize nandM x y = v at h6 ⊢
    have l6 : [x, y, u, v, x, []].length < 1000 := by show 6 < 1000; decide
    have i0 : 0 < [x, y, u, v, x, []].length := by show 0 < 6; decide
    have i4 : 4 < [x, y, u, v, x, []].length := by show 4 < 6; decide
    have i5 : 5 < [x, y, u, v, x, []].length := by show 5 < 6; decide
    have i2 : 2 < [x, y, u, v, x, []].length := by show 2 < 6; decide
    have i3 : 3 < [x, y, u, v, x, []].length := by show 3 < 6; decide
    refine ⟨⟨h6, l6, .inr (.inr (.inr ⟨.inl rfl, i0⟩))⟩, ?_⟩
    show OkR _ [x, y, u, v, x, []] _
    refine ⟨⟨h6, l6, .inr (.inr (.inr ⟨.inl rfl, i4⟩))⟩, ?_⟩
    show OkR _ [x, y, u, v, x, []] _
    refine ⟨⟨h6, l6, .inr (.inr (.inr ⟨.inr rfl, i5⟩))⟩, ?_⟩
    show OkR _ [x, y, u, v, x, []] _
    refine ⟨⟨h6, l6, .inr (.inr (.inr ⟨.inr rfl, i2⟩))⟩, ?_⟩
    show OkR _ [x, y, u, v, x, []] _
    exact ⟨⟨h6, l6, .inr (.inr (.inr ⟨.inr rfl, i3⟩))⟩, trivial⟩
  constructor
  · unfold allS
    rw [List.append_assoc]
    show OkR true [] (⟨2, 0, 0, 0⟩ :: (A.map (setS 0) ++ (madeS 1 B ++ tail9)))
    refine ⟨⟨(fun P hP => by cases hP), by simp, .inl rfl⟩, ?_⟩
    show OkR true [[]] _
    refine (sets_run A [[]] 0 _ (by decide) (fun P hP => by
      rw [List.mem_singleton] at hP; subst hP; exact ⟨Good.nil, by simp; omega⟩) (by decide)).1 ?_
    show OkR true [sets A []] (⟨2, 0, 0, 0⟩ :: (B.map (setS 1) ++ tail9))
    rw [hx]
    refine ⟨⟨fun P hP => by rw [List.mem_singleton] at hP; subst hP; exact ⟨gx, by omega⟩, by simp, .inl rfl⟩, ?_⟩
    show OkR true [x, []] _
    refine (sets_run B [x, []] 1 _ (by simp) (fun P hP => by
      simp only [List.mem_cons, List.not_mem_nil, or_false] at hP
      rcases hP with rfl | rfl
      · exact ⟨gx, by omega⟩
      · exact ⟨Good.nil, by simp; omega⟩) (by simp)).1 ?_
    show OkR true [x, sets B []] _
    rw [hy]
    exact ok9
  · unfold allS
    rw [runA_app, runP_app, r1, r2]
    refine ⟨runA [] (madeS 0 A ++ madeS 1 B) ++ [⟨false, 0, []⟩, ⟨false, 0, []⟩, ⟨false, 0, []⟩, ⟨false, 0, []⟩], ?_, ?_⟩
    · rw [List.append_assoc]
      congr 1
      show [(⟨false, 0, []⟩ : BA), ⟨false, 0, []⟩, ⟨false, 0, []⟩, ⟨false, 0, []⟩, ⟨false, 0, nums x⟩, ⟨false, 0, nums (orM (andM x y) (nandM x y))⟩, ⟨false, tot (andM (andM x y) (nandM x y)), []⟩, ⟨false, tot (andM x y), []⟩, ⟨false, tot (nandM x y), []⟩] = _
      rw [p1, p2]; rfl
    · rw [List.length_append, runA_len]; simp [madeS]; omega
end Go.Proofs.Ytooejhmelodiaaa.E
