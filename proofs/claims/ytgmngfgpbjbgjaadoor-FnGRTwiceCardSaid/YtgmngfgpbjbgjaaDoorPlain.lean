/-
  Graphs as plain lists: what adding edges gives, that every vertex's neighbours are told from both ends, that the degrees are twice the edges, and that edges added again change nothing.
-/
import Derived.Tactics
namespace Go.Proofs.YtgmngfgpbjbgjaaDoor.E

structure G where
  vs : List Int
  nb : Int → List Int
  e : Nat

def G0 : G := ⟨[], fun _ => [], 0⟩
def addV (s : G) (v : Int) : G := if v ∈ s.vs then s else ⟨s.vs ++ [v], s.nb, s.e⟩
def link (s : G) (a b : Int) : G := ⟨s.vs, fun x => if x = a then s.nb a ++ [b] else if x = b then s.nb b ++ [a] else s.nb x, s.e + 1⟩
def step (s : G) (a b : Int) : G × Int :=
  if a = b then (s, 2) else if b ∈ s.nb a then (addV (addV s a) b, 3) else (link (addV (addV s a) b) a b, 0)
def grun (s : G) : List (Int × Int) → G × List Int
  | [] => (s, [])
  | p :: l => ((grun (step s p.1 p.2).1 l).1, (step s p.1 p.2).2 :: (grun (step s p.1 p.2).1 l).2)

theorem grun_append : ∀ (l m : List (Int × Int)) (s : G), grun s (l ++ m) = ((grun (grun s l).1 m).1, (grun s l).2 ++ (grun (grun s l).1 m).2)
  | [], m, s => by simp [grun]
  | p :: l, m, s => by simp only [List.cons_append, grun, grun_append l m]
theorem grun_snoc (l : List (Int × Int)) (p : Int × Int) (s : G) : grun s (l ++ [p]) = ((step (grun s l).1 p.1 p.2).1, (grun s l).2 ++ [(step (grun s l).1 p.1 p.2).2]) := by
  rw [grun_append]; rfl
theorem grun_len : ∀ (l : List (Int × Int)) (s : G), (grun s l).2.length = l.length
  | [], _ => rfl
  | p :: l, s => by simp [grun, grun_len l]

theorem addV_nb (s : G) (v : Int) : (addV s v).nb = s.nb := by unfold addV; split <;> rfl
theorem addV_e (s : G) (v : Int) : (addV s v).e = s.e := by unfold addV; split <;> rfl
theorem addV_mem {s : G} {v x : Int} : x ∈ (addV s v).vs ↔ x ∈ s.vs ∨ x = v := by
  unfold addV
  split
  · rename_i h; exact ⟨.inl, fun h' => h'.elim id (fun e => e ▸ h)⟩
  · simp
theorem addV_len (s : G) (v : Int) : (addV s v).vs.length ≤ s.vs.length + 1 := by unfold addV; split <;> simp
theorem addV_id {s : G} {v : Int} (h : v ∈ s.vs) : addV s v = s := by unfold addV; rw [if_pos h]

theorem sum_one (f g : Int → Nat) (a : Int) (ha : g a = f a + 1) (ho : ∀ x, x ≠ a → g x = f x) : ∀ l : List Int, l.Nodup → (l.map g).sum = (l.map f).sum + (if a ∈ l then 1 else 0)
  | [], _ => by simp
  | x :: l, h => by
    have h1 := List.nodup_cons.1 h
    have ih := sum_one f g a ha ho l h1.2
    by_cases hx : a = x
    · subst hx
      simp only [List.map_cons, List.sum_cons, List.mem_cons, true_or, if_true, ih, ha, if_neg h1.1]; omega
    · simp only [List.map_cons, List.sum_cons, List.mem_cons, hx, false_or, ih, ho x (fun e => hx e.symm)]; omega

structure GInv (s : G) : Prop where
  nd : s.vs.Nodup
  sym : ∀ a b, b ∈ s.nb a → a ∈ s.nb b
  irr : ∀ a, a ∉ s.nb a
  on : ∀ a b, b ∈ s.nb a → a ∈ s.vs
  ndn : ∀ a, (s.nb a).Nodup
  sum : (s.vs.map fun v => (s.nb v).length).sum = 2 * s.e

theorem inv0 : GInv G0 := ⟨List.nodup_nil, by simp [G0], by simp [G0], by simp [G0], by simp [G0], rfl⟩
theorem inv_addV {s : G} (h : GInv s) (v : Int) : GInv (addV s v) := by
  by_cases hv : v ∈ s.vs
  · rw [addV_id hv]; exact h
  have e : addV s v = ⟨s.vs ++ [v], s.nb, s.e⟩ := if_neg hv
  rw [e]
  refine ⟨?_, h.sym, h.irr, fun a b hb => List.mem_append_left _ (h.on a b hb), h.ndn, ?_⟩
  · rw [List.nodup_append]; exact ⟨h.nd, by simp, by intro x hx y hy; simp at hy; subst hy; exact fun e => hv (e ▸ hx)⟩
  · have hn : s.nb v = [] := List.eq_nil_iff_forall_not_mem.2 fun b hb => hv (h.on v b hb)
    simp only [List.map_append, List.map_cons, List.map_nil, List.sum_append, List.sum_cons, List.sum_nil, hn, List.length_nil, Nat.add_zero]
    exact h.sum
theorem inv_link {s : G} (h : GInv s) {a b : Int} (hab : a ≠ b) (ha : a ∈ s.vs) (hb : b ∈ s.vs) (hn : b ∉ s.nb a) : GInv (link s a b) := by
  have hn' : a ∉ s.nb b := fun h' => hn (h.sym b a h')
  refine ⟨h.nd, ?_, ?_, ?_, ?_, ?_⟩
  · intro x y hy
    simp only [link] at hy ⊢
    by_cases hx : x = a
    · subst hx
      rw [if_pos rfl] at hy
      rcases List.mem_append.1 hy with h1 | h1
      · have hyx : y ≠ x := fun e => h.irr x (e ▸ h1)
        have := h.sym x y h1
        rw [if_neg hyx]
        split
        · rename_i e; subst e; exact absurd h1 hn
        · exact this
      · simp at h1; subst h1
        rw [if_neg (Ne.symm hab), if_pos rfl]; simp
    · rw [if_neg hx] at hy
      by_cases hxb : x = b
      · subst hxb
        rw [if_pos rfl] at hy
        rcases List.mem_append.1 hy with h1 | h1
        · have hyx : y ≠ x := fun e => h.irr x (e ▸ h1)
          have := h.sym x y h1
          split
          · rename_i e; subst e; exact absurd h1 hn'
          · exact this
        · simp at h1; subst h1; simp
      · rw [if_neg hxb] at hy
        have := h.sym x y hy
        split
        · rename_i e; subst e; exact List.mem_append_left _ this
        · split
          · rename_i e; subst e; exact List.mem_append_left _ this
          · exact this
  · intro x hx
    simp only [link] at hx
    split at hx
    · rename_i e; subst e; rcases List.mem_append.1 hx with h1 | h1
      · exact h.irr _ h1
      · simp at h1; exact hab h1
    · split at hx
      · rename_i e; subst e; rcases List.mem_append.1 hx with h1 | h1
        · exact h.irr _ h1
        · simp at h1; exact hab h1.symm
      · exact h.irr _ hx
  · intro x y hy
    simp only [link] at hy ⊢
    split at hy
    · rename_i e; subst e; exact ha
    · split at hy
      · rename_i e; subst e; exact hb
      · exact h.on x y hy
  · intro x
    simp only [link]
    split
    · rw [List.nodup_append]; exact ⟨h.ndn a, by simp, by intro x hx y hy; simp at hy; subst hy; exact fun e => hn (e ▸ hx)⟩
    · split
      · rw [List.nodup_append]; exact ⟨h.ndn b, by simp, by intro x hx y hy; simp at hy; subst hy; exact fun e => hn' (e ▸ hx)⟩
      · exact h.ndn x
  · have e1 := sum_one (fun v => (s.nb v).length) (fun x => (if x = a then s.nb a ++ [b] else s.nb x).length) a (by simp) (by intro x hx; simp [hx]) s.vs h.nd
    have e2 := sum_one (fun x => (if x = a then s.nb a ++ [b] else s.nb x).length) (fun x => (if x = a then s.nb a ++ [b] else if x = b then s.nb b ++ [a] else s.nb x).length) b (by simp [Ne.symm hab]) (by intro x hx; simp [hx]) s.vs h.nd
    simp only [if_pos ha] at e1
    simp only [if_pos hb] at e2
    have := h.sum
    simp only [link]
    omega
theorem inv_step {s : G} (h : GInv s) (a b : Int) : GInv (step s a b).1 := by
  unfold step
  split
  · exact h
  · rename_i hab
    split
    · exact inv_addV (inv_addV h a) b
    · rename_i hn
      refine inv_link (inv_addV (inv_addV h a) b) hab ?_ ?_ ?_
      · rw [addV_mem, addV_mem]; exact .inl (.inr rfl)
      · rw [addV_mem]; exact .inr rfl
      · rw [addV_nb, addV_nb]; exact hn
theorem inv_run : ∀ (l : List (Int × Int)) {s : G}, GInv s → GInv (grun s l).1
  | [], _, h => h
  | p :: l, _, h => inv_run l (inv_step h p.1 p.2)

/-- The vertices stand between the bounds of the edges' ends. -/
theorem step_mem {s : G} {a b x : Int} (h : x ∈ (step s a b).1.vs) : x ∈ s.vs ∨ x = a ∨ x = b := by
  unfold step at h
  split at h
  · exact .inl h
  · have h2 : x ∈ (addV (addV s a) b).vs := by split at h <;> exact h
    rw [addV_mem, addV_mem] at h2
    rcases h2 with (h2 | h2) | h2
    · exact .inl h2
    · exact .inr (.inl h2)
    · exact .inr (.inr h2)
theorem run_mem : ∀ (l : List (Int × Int)) {s : G} {x : Int}, x ∈ (grun s l).1.vs → x ∈ s.vs ∨ ∃ p ∈ l, x = p.1 ∨ x = p.2
  | [], _, _, h => .inl h
  | p :: l, s, x, h => by
    rcases run_mem l h with h | ⟨q, hq, h⟩
    · rcases step_mem h with h | h
      · exact .inl h
      · exact .inr ⟨p, List.mem_cons_self .., h⟩
    · exact .inr ⟨q, List.mem_cons_of_mem _ hq, h⟩
theorem step_len (s : G) (a b : Int) : (step s a b).1.vs.length ≤ s.vs.length + 2 ∧ (step s a b).1.e ≤ s.e + 1 := by
  have h1 := addV_len s a
  have h2 := addV_len (addV s a) b
  have h3 : (addV (addV s a) b).e = s.e := by rw [addV_e, addV_e]
  unfold step
  split
  · exact ⟨by simp, by simp⟩
  · split
    · exact ⟨by simp only; omega, by simp only; omega⟩
    · exact ⟨by simp only [link]; omega, by simp only [link]; omega⟩
theorem run_len : ∀ (l : List (Int × Int)) (s : G), (grun s l).1.vs.length ≤ s.vs.length + 2 * l.length ∧ (grun s l).1.e ≤ s.e + l.length
  | [], s => by simp [grun]
  | p :: l, s => by
    have := step_len s p.1 p.2
    have := run_len l (step s p.1 p.2).1
    simp only [grun, List.length_cons]
    omega

/-- What is below a bound. -/
theorem sum_lt (f : Int → Nat) (v : Int) : ∀ vs : List Int, vs.Nodup → ((vs.filter fun x => decide (x < v + 1)).map f).sum = ((vs.filter fun x => decide (x < v)).map f).sum + (if v ∈ vs then f v else 0)
  | [], _ => by simp
  | x :: l, h => by
    have h1 := List.nodup_cons.1 h
    have ih := sum_lt f v l h1.2
    rcases Int.lt_trichotomy x v with hx | hx | hx
    · rw [List.filter_cons_of_pos (by simp; omega), List.filter_cons_of_pos (by simp; omega)]
      have : v ∈ x :: l ↔ v ∈ l := by simp; omega
      simp only [List.map_cons, List.sum_cons, ih, this]; omega
    · subst hx
      rw [List.filter_cons_of_pos (by simp; omega), List.filter_cons_of_neg (by simp)]
      rw [if_pos (List.mem_cons_self ..)]
      rw [if_neg h1.1] at ih
      simp only [List.map_cons, List.sum_cons, ih]; omega
    · rw [List.filter_cons_of_neg (by simp; omega), List.filter_cons_of_neg (by simp; omega)]
      have : v ∈ x :: l ↔ v ∈ l := by simp; omega
      simp only [ih, this]
theorem filter_all {vs : List Int} {v : Int} (h : ∀ x ∈ vs, x < v) : (vs.filter fun x => decide (x < v)) = vs := List.filter_eq_self.2 fun x hx => decide_eq_true (h x hx)
theorem filter_zero {vs : List Int} {v : Int} (h : ∀ x ∈ vs, v ≤ x) : (vs.filter fun x => decide (x < v)) = [] := List.filter_eq_nil_iff.2 fun x hx => by have := h x hx; simp; omega
theorem sum_const (l : List Int) : (l.map fun _ => 1).sum = l.length := by induction l <;> simp_all; omega

/-- An edge that is there, or a loop: added once more, either way. -/
def Has (s : G) (p : Int × Int) : Prop := p.1 = p.2 ∨ (p.1 ∈ s.vs ∧ p.2 ∈ s.vs ∧ p.2 ∈ s.nb p.1)
theorem link_sub {s : G} {a b x y : Int} (h : y ∈ s.nb x) : y ∈ (link s a b).nb x := by
  simp only [link]
  split
  · rename_i e; subst e; exact List.mem_append_left _ h
  · split
    · rename_i e; subst e; exact List.mem_append_left _ h
    · exact h
theorem has_step {s : G} {p : Int × Int} (h : Has s p) (a b : Int) : Has (step s a b).1 p := by
  rcases h with h | ⟨h1, h2, h3⟩
  · exact .inl h
  refine .inr ?_
  have m : ∀ x, x ∈ s.vs → x ∈ (addV (addV s a) b).vs := fun x hx => by rw [addV_mem, addV_mem]; exact .inl (.inl hx)
  have n : p.2 ∈ (addV (addV s a) b).nb p.1 := by rw [addV_nb, addV_nb]; exact h3
  unfold step
  split
  · exact ⟨h1, h2, h3⟩
  · split
    · exact ⟨m _ h1, m _ h2, n⟩
    · exact ⟨m _ h1, m _ h2, link_sub n⟩
theorem has_self {s : G} (a b : Int) : Has (step s a b).1 (a, b) := by
  by_cases hab : a = b
  · exact .inl hab
  refine .inr ?_
  have ma : a ∈ (addV (addV s a) b).vs := by rw [addV_mem, addV_mem]; exact .inl (.inr rfl)
  have mb : b ∈ (addV (addV s a) b).vs := by rw [addV_mem]; exact .inr rfl
  unfold step
  rw [if_neg hab]
  split
  · rename_i hn; exact ⟨ma, mb, by rw [addV_nb, addV_nb]; exact hn⟩
  · exact ⟨ma, mb, by simp [link]⟩
theorem has_run : ∀ (l : List (Int × Int)) {s : G} {p : Int × Int}, Has s p → Has (grun s l).1 p
  | [], _, _, h => h
  | q :: l, _, _, h => has_run l (has_step h q.1 q.2)
theorem has_all : ∀ (l : List (Int × Int)) {s : G}, GInv s → ∀ p ∈ l, Has (grun s l).1 p
  | [], _, _, p, hp => by cases hp
  | q :: l, s, h, p, hp => by
    rcases List.mem_cons.1 hp with e | hp
    · subst e; exact has_run l (has_self p.1 p.2)
    · exact has_all l (inv_step h q.1 q.2) p hp
theorem step_again {s : G} (hi : GInv s) {a b : Int} (h : Has s (a, b)) : (step s b a).1 = s ∧ (step s b a).2 ≠ 0 := by
  unfold step
  rcases h with h | ⟨h1, h2, h3⟩
  · rw [if_pos h.symm]; exact ⟨rfl, (by decide : (2 : Int) ≠ 0)⟩
  · have hn := hi.sym a b h3
    split
    · exact ⟨rfl, (by decide : (2 : Int) ≠ 0)⟩
    · refine ⟨?_, (by decide : (3 : Int) ≠ 0)⟩
      simp only at h1 h2 ⊢
      rw [addV_id h2, addV_id h1]
theorem run_again : ∀ (l : List (Int × Int)) {s : G}, GInv s → (∀ p ∈ l, Has s p) → (grun s (l.map fun p => (p.2, p.1))).1 = s ∧ ∀ x ∈ (grun s (l.map fun p => (p.2, p.1))).2, x ≠ 0
  | [], s, _, _ => ⟨rfl, by simp [grun]⟩
  | p :: l, s, hi, h => by
    obtain ⟨h1, h2⟩ := step_again hi (h p (List.mem_cons_self ..))
    have ih := run_again l hi fun q hq => h q (List.mem_cons_of_mem _ hq)
    simp only [List.map_cons, grun, h1]
    refine ⟨ih.1, ?_⟩
    intro x hx
    rcases List.mem_cons.1 hx with e | hx
    · subst e; exact h2
    · exact ih.2 x hx
end Go.Proofs.YtgmngfgpbjbgjaaDoor.E
