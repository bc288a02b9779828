/-
  Range trees of skip lists and ordered ones, plain: both answer alike.
-/
import Derived.Test.YtfokodpnoiilbaaGreatTF
import Derived.Test.YtfokodpnoiilbaaGreatQD
namespace Go.Proofs.YtfokodpnoiilbaaGreat.E
open Go
set_option linter.unusedSimpArgs false
set_option linter.unusedVariables false
set_option maxRecDepth 100000
set_option maxHeartbeats 8000000

/-- A step as the ordered tree is asked. -/
def askD (s : DStp) : DStp := { s with high := s.high.map (· - 1) }
theorem plI_map {l : List Int} {i : Nat} (h1 : 1 ≤ i) (h2 : i ≤ l.length) : plI (l.map (· - 1)) i = plI l i - 1 := by
  unfold plI
  rw [if_neg (by omega), if_neg (by omega), List.getD_eq_getElem?_getD, List.getD_eq_getElem?_getD, List.getElem?_map, List.getElem?_eq_getElem (by omega)]
  rfl
theorem vis_congr {α : Type} {lo hi hi' : Nat → Int} : ∀ (m i : Nat) (L : ON α m), (∀ j, i ≤ j → j < i + m → hi j = hi' j) → vis lo hi m i L = vis lo hi' m i L
  | 0, _, _, _ => rfl
  | m + 1, i, L, h => by
    have e : ∀ p : Int × ON α m, vis lo hi m (i + 1) p.2 = vis lo hi' m (i + 1) p.2 := fun p => vis_congr m (i + 1) p.2 fun j h1 h2 => h j (by omega) (by omega)
    show (((L : List (Int × ON α m)).drop _).takeWhile fun p => decide (p.1 ≤ hi i)).flatMap (fun p => vis lo hi m (i + 1) p.2) = (((L : List (Int × ON α m)).drop _).takeWhile fun p => decide (p.1 ≤ hi' i)).flatMap (fun p => vis lo hi' m (i + 1) p.2)
    rw [h i (Nat.le_refl _) (by omega)]
    congr 1
    funext p
    exact e p
theorem ans_ask {n : Nat} {M : OP n} {s : DStp} (h : s.op = 4 → s.high.length = n) : ansX n M (hiR (askD s)) (askD s) = ansX n M (hiS s) s := by
  unfold ansX
  show (if s.op = 1 then ansD (oldsP n M s.dots) else if s.op = 2 then ansD (goneP n M s.dots) else if s.op = 3 then ansD (s.dots.map (oldP n M)) else if s.op = 4 then ansD (vis (plI s.low) (hiR (askD s)) n 1 M) else ⟨[], [], szN n M⟩) = _
  by_cases h4 : s.op = 4
  · rw [if_neg (by omega), if_neg (by omega), if_neg (by omega), if_pos h4, if_neg (by omega), if_neg (by omega), if_neg (by omega), if_pos h4]
    rw [vis_congr (lo := plI s.low) (hi := hiR (askD s)) (hi' := hiS s) n 1 M fun j h1 h2 => plI_map h1 (by rw [h h4]; omega)]
  · simp only [if_neg h4]
theorem runXA_ask {n : Nat} : ∀ (ss : List DStp) (M : OP n), (∀ s ∈ ss, s.op = 4 → s.high.length = n) → runXA n hiR M (ss.map askD) = runXA n hiS M ss
  | [], _, _ => rfl
  | s :: ss, M, h => by
    show ansX n M (hiR (askD s)) (askD s) :: runXA n hiR (stepX n M s) (ss.map askD) = ansX n M (hiS s) s :: runXA n hiS (stepX n M s) ss
    rw [ans_ask (h s List.mem_cons_self), runXA_ask ss _ fun t ht => h t (List.mem_cons_of_mem _ ht)]
theorem totD_ask : ∀ ss : List DStp, totD (ss.map askD) = totD ss := fun ss => by
  unfold totD; rw [List.map_map]; rfl
theorem totE_st (es : List EnD) : totD (es.map EnD.st) = totE es := by
  unfold totD totE; rw [List.map_map]; rfl
theorem dots_le {es : List EnD} {e : EnD} (he : e ∈ es) : e.dots.length ≤ totE es := by
  unfold totE
  induction es with
  | nil => cases he
  | cons a es ih =>
    rw [List.map_cons, List.sum_cons]
    rcases List.mem_cons.1 he with rfl | he
    · omega
    · have := ih he; omega
theorem OkX.of {n : Nat} {es : List EnD} {e : EnD} (hn : n ≤ 3) (h : okE n e) (he : e ∈ es) (ht : totE es ≤ 61) : OkX e.st := by
  have := dots_le he
  refine ⟨fun x hx => ⟨by have := (h.dots x hx).1; omega, (h.dots x hx).2⟩, by show e.dots.length < _; omega, by have := h.ll; show e.low.length < _; omega, by have := h.hl; show e.high.length < _; omega, fun i => ?_, h.op⟩
  have := plI_pos h.lo i
  exact ⟨this.1, by have := this.2; show plI e.low i < _; omega⟩
theorem OkX.ask {s : DStp} (h : OkX s) : OkX (askD s) := ⟨h.dots, h.dl, h.ll, by show (s.high.map _).length < _; rw [List.length_map]; exact h.hl, h.lo, h.op⟩
/-! ## How many -/
theorem sz_addsP (dm : Nat) : ∀ (xs : List PD) (M : OP dm), SrtN dm M → szN dm (addsP dm M xs) ≤ szN dm M + xs.length ∧ SrtN dm (addsP dm M xs)
  | [], M, h => ⟨Nat.le_refl _, h⟩
  | x :: xs, M, h => by
    have h1 : szN dm (addP dm M x) = szN dm M + if (getON dm M (kyP x.1 dm 1)).isNone = true then 1 else 0 := szN_add dm M _ _ h (kyP_len _ dm 1)
    obtain ⟨h2, h3⟩ := sz_addsP dm xs (addP dm M x) (srt_add dm M _ _ h)
    refine ⟨?_, h3⟩
    show szN dm (addsP dm (addP dm M x) xs) ≤ _
    rw [List.length_cons]
    have : (if (getON dm M (kyP x.1 dm 1)).isNone = true then 1 else 0) ≤ 1 := by split <;> omega
    omega
theorem sz_delsP (dm : Nat) (hd : 1 ≤ dm) : ∀ (xs : List PD) (M : OP dm), SrtN dm M → szN dm (delsP dm M xs) ≤ szN dm M ∧ SrtN dm (delsP dm M xs)
  | [], M, h => ⟨Nat.le_refl _, h⟩
  | x :: xs, M, h => by
    have h1 : szN dm (delP dm M x) ≤ szN dm M ∧ SrtN dm (delP dm M x) := by
      unfold delP
      cases hq : getON dm M (kyP x.1 dm 1) with
      | none => exact ⟨Nat.le_refl _, h⟩
      | some y =>
        have := szN_delT dm M (kyP x.1 dm 1) hd (by rw [hq]; rfl) (kyP_len _ dm 1)
        exact ⟨by show szN dm (delT dm M _) ≤ _; omega, srt_delT dm M _ h⟩
    obtain ⟨h2, h3⟩ := sz_delsP dm hd xs (delP dm M x) h1.2
    exact ⟨Nat.le_trans h2 h1.1, h3⟩
theorem sz_step (dm : Nat) (hd : 1 ≤ dm) (M : OP dm) (s : DStp) (h : SrtN dm M) : szN dm (stepX dm M s) ≤ szN dm M + s.dots.length ∧ SrtN dm (stepX dm M s) := by
  unfold stepX
  split
  · exact sz_addsP dm _ M h
  · split
    · have := sz_delsP dm hd s.dots M h
      exact ⟨by omega, this.2⟩
    · exact ⟨by omega, h⟩
theorem ans_len (dm : Nat) (hi : Nat → Int) (M : OP dm) (s : DStp) : (ansX dm M hi s).dots.length ≤ szN dm M + s.dots.length := by
  unfold ansX
  split
  · show ((oldsP dm M s.dots).map pdO).length ≤ _
    rw [List.length_map, olds_len]; omega
  · split
    · show ((goneP dm M s.dots).map pdO).length ≤ _
      rw [List.length_map, goneP_length]; omega
    · split
      · show ((s.dots.map (oldP dm M)).map pdO).length ≤ _
        rw [List.length_map, List.length_map]; omega
      · split
        · show ((vis (plI s.low) hi dm 1 M).map pdO).length ≤ _
          rw [List.length_map]
          have := vis_len (plI s.low) hi dm 1 M
          omega
        · exact Nat.zero_le _
theorem run_len (dm : Nat) (hd : 1 ≤ dm) (hi : DStp → Nat → Int) : ∀ (ss : List DStp) (M : OP dm), SrtN dm M → ∀ a ∈ runXA dm hi M ss, a.dots.length ≤ szN dm M + totD ss
  | [], _, _, a, ha => by cases ha
  | s :: ss, M, h, a, ha => by
    have e : totD (s :: ss) = s.dots.length + totD ss := rfl
    obtain ⟨h1, h2⟩ := sz_step dm hd M s h
    rcases List.mem_cons.1 ha with rfl | ha
    · have := ans_len dm (hi s) M s
      omega
    · have := run_len dm hd hi ss (stepX dm M s) h2 a ha
      omega
theorem srt_nil : ∀ dm, SrtN dm (mapE dm (nilN dm))
  | 0 => trivial
  | n + 1 => ⟨List.Pairwise.nil, fun p hp => by cases hp⟩
theorem sz_nil : ∀ dm, 1 ≤ dm → szN dm (mapE dm (nilN dm)) = 0
  | 0, h => by omega
  | n + 1, _ => rfl
theorem is_len (dm : Nat) (hi : Nat → Int) (M : OP dm) (s : DStp) : (ansX dm M hi s).is.length ≤ szN dm M + s.dots.length := by
  have h := ans_len dm hi M s
  have : (ansX dm M hi s).is.length = (ansX dm M hi s).dots.length := by
    unfold ansX ansD
    split
    · simp
    · split
      · simp
      · split
        · simp
        · split
          · simp
          · rfl
  omega
theorem run_is (dm : Nat) (hd : 1 ≤ dm) (hi : DStp → Nat → Int) : ∀ (ss : List DStp) (M : OP dm), SrtN dm M → ∀ a ∈ runXA dm hi M ss, a.is.length ≤ szN dm M + totD ss
  | [], _, _, a, ha => by cases ha
  | s :: ss, M, h, a, ha => by
    have e : totD (s :: ss) = s.dots.length + totD ss := rfl
    obtain ⟨h1, h2⟩ := sz_step dm hd M s h
    rcases List.mem_cons.1 ha with rfl | ha
    · have := is_len dm (hi s) M s
      omega
    · have := run_is dm hd hi ss (stepX dm M s) h2 a ha
      omega
/-- One entry, counted. -/
theorem one_run : (runXA 1 hiS (mapE 1 (nilN 1)) [⟨1, [([3], 7)], [], [], 0⟩, ⟨6, [], [], [], 0⟩])[1]?.map DAns.n = some 1 := by decide
end Go.Proofs.YtfokodpnoiilbaaGreat.E
