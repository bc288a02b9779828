/-
  Range trees, plain: levels of sorted lists; keys; what they hold as one sorted list.
-/
namespace Go.Proofs.Ytfokodpnoiilbaa.E
set_option linter.unusedSimpArgs false
set_option linter.unusedVariables false

/-- A tree of some levels. -/
@[reducible] def ON (α : Type) : Nat → Type
  | 0 => α
  | n + 1 => List (Int × ON α n)
section
variable {α : Type}
def newON : (n : Nat) → List Int → α → ON α n
  | 0, _, e => e
  | n + 1, [], e => ([] : List (Int × ON α n))
  | n + 1, v :: vs, e => ([(v, newON n vs e)] : List (Int × ON α n))
/-- A key is put into a sorted list: what was there is turned, or something new. -/
def insL {β : Type} (v : Int) (f : β → β) (x0 : β) : List (Int × β) → List (Int × β)
  | [] => [(v, x0)]
  | p :: L => if p.1 < v then p :: insL v f x0 L else if p.1 = v then (v, f p.2) :: L else (v, x0) :: p :: L
def addON : (n : Nat) → ON α n → List Int → α → ON α n
  | 0, _, _, e => e
  | n + 1, L, [], e => L
  | n + 1, L, v :: vs, e => insL v (fun x => addON n x vs e) (newON n vs e) (L : List (Int × ON α n))
def lkp {β : Type} (v : Int) : List (Int × β) → Option β
  | [] => none
  | p :: L => if p.1 = v then some p.2 else lkp v L
def getON : (n : Nat) → ON α n → List Int → Option α
  | 0, e, _ => some e
  | n + 1, L, [] => none
  | n + 1, L, v :: vs => (lkp v (L : List (Int × ON α n))).bind fun x => getON n x vs
def fltK : (n : Nat) → ON α n → List (List Int × α)
  | 0, e => [([], e)]
  | n + 1, L => (L : List (Int × ON α n)).flatMap fun p => (fltK n p.2).map fun q => (p.1 :: q.1, q.2)
/-- Sorted at each level. -/
def SrtN : (n : Nat) → ON α n → Prop
  | 0, _ => True
  | n + 1, L => List.Pairwise (fun p q : Int × ON α n => p.1 < q.1) L ∧ ∀ p ∈ (show List (Int × ON α n) from L), SrtN n p.2
theorem srt_new : ∀ (n : Nat) (k : List Int) (e : α), SrtN n (newON n k e)
  | 0, _, _ => trivial
  | n + 1, [], _ => ⟨List.Pairwise.nil, fun p hp => by cases hp⟩
  | n + 1, v :: vs, e => ⟨List.pairwise_singleton _ _, fun p hp => by
    have : p = (v, newON n vs e) := by simpa [newON] using hp
    rw [this]; exact srt_new n vs e⟩
theorem mem_insL {β : Type} {v : Int} {f : β → β} {x0 : β} : ∀ {L : List (Int × β)} {q : Int × β}, q ∈ insL v f x0 L → q ∈ L ∨ (q.1 = v ∧ (q.2 = x0 ∨ ∃ p ∈ L, p.1 = v ∧ q.2 = f p.2))
  | [], q, h => by
    have : q = (v, x0) := by simpa [insL] using h
    rw [this]; exact .inr ⟨rfl, .inl rfl⟩
  | p :: L, q, h => by
    unfold insL at h
    split at h
    · rcases List.mem_cons.1 h with rfl | h
      · exact .inl List.mem_cons_self
      · rcases mem_insL h with h | ⟨h1, h2 | ⟨p', h3, h4⟩⟩
        · exact .inl (List.mem_cons_of_mem _ h)
        · exact .inr ⟨h1, .inl h2⟩
        · exact .inr ⟨h1, .inr ⟨p', List.mem_cons_of_mem _ h3, h4⟩⟩
    · split at h
      · rename_i h1 h2
        rcases List.mem_cons.1 h with rfl | h
        · exact .inr ⟨rfl, .inr ⟨p, List.mem_cons_self, h2, rfl⟩⟩
        · exact .inl (List.mem_cons_of_mem _ h)
      · rcases List.mem_cons.1 h with rfl | h
        · exact .inr ⟨rfl, .inl rfl⟩
        · exact .inl h
theorem insL_sorted {β : Type} {v : Int} {f : β → β} {x0 : β} : ∀ {L : List (Int × β)}, L.Pairwise (fun p q => p.1 < q.1) → (insL v f x0 L).Pairwise (fun p q => p.1 < q.1)
  | [], _ => List.pairwise_singleton _ _
  | p :: L, h => by
    obtain ⟨h1, h2⟩ := List.pairwise_cons.1 h
    unfold insL
    split
    · rename_i hlt
      refine List.pairwise_cons.2 ⟨fun q hq => ?_, insL_sorted h2⟩
      rcases mem_insL hq with hq | ⟨e, _⟩
      · exact h1 q hq
      · omega
    · split
      · rename_i e
        refine List.pairwise_cons.2 ⟨fun q hq => ?_, h2⟩
        have := h1 q hq
        show v < q.1
        omega
      · refine List.pairwise_cons.2 ⟨fun q hq => ?_, h⟩
        show v < q.1
        rcases List.mem_cons.1 hq with rfl | hq
        · omega
        · have := h1 q hq; omega
theorem srt_add : ∀ (n : Nat) (L : ON α n) (k : List Int) (e : α), SrtN n L → SrtN n (addON n L k e)
  | 0, _, _, _, _ => trivial
  | n + 1, L, [], e, h => h
  | n + 1, L, v :: vs, e, ⟨h1, h2⟩ => by
    refine ⟨insL_sorted h1, fun p hp => ?_⟩
    rcases mem_insL hp with hp | ⟨_, h | ⟨q, hq, _, h⟩⟩
    · exact h2 p hp
    · rw [h]; exact srt_new n vs e
    · rw [h]; exact srt_add n q.2 vs e (h2 q hq)
theorem lkp_gt {β : Type} {v : Int} : ∀ {L : List (Int × β)}, (∀ p ∈ L, v < p.1) → lkp v L = none
  | [], _ => rfl
  | p :: L, h => by
    have := h p List.mem_cons_self
    unfold lkp
    rw [if_neg (by omega)]
    exact lkp_gt fun q hq => h q (List.mem_cons_of_mem _ hq)
theorem lkp_insL {β : Type} {v u : Int} {f : β → β} {x0 : β} : ∀ {L : List (Int × β)}, L.Pairwise (fun p q => p.1 < q.1) → lkp u (insL v f x0 L) = if u = v then some (match lkp v L with | some x => f x | none => x0) else lkp u L
  | [], _ => by
    unfold insL lkp
    by_cases e : u = v
    · subst e; simp [lkp]
    · rw [if_neg (fun h => e h.symm), if_neg e]; rfl
  | p :: L, h => by
    obtain ⟨h1, h2⟩ := List.pairwise_cons.1 h
    have ih := lkp_insL (v := v) (u := u) (f := f) (x0 := x0) h2
    unfold insL
    split
    · rename_i hlt
      have e1 : lkp v (p :: L) = lkp v L := by show (if p.1 = v then _ else _) = _; rw [if_neg (by omega)]
      show (if p.1 = u then some p.2 else lkp u (insL v f x0 L)) = _
      rw [ih, e1]
      by_cases e : p.1 = u
      · rw [if_pos e, if_neg (by omega)]
        show _ = (if p.1 = u then some p.2 else _)
        rw [if_pos e]
      · rw [if_neg e]
        show _ = if u = v then _ else (if p.1 = u then _ else lkp u L)
        rw [if_neg e]
    · split
      · rename_i e2
        have e1 : lkp v (p :: L) = some p.2 := by show (if p.1 = v then _ else _) = _; rw [if_pos e2]
        rw [e1]
        show (if v = u then some (f p.2) else lkp u L) = if u = v then some (f p.2) else (if p.1 = u then some p.2 else lkp u L)
        by_cases e : u = v
        · rw [if_pos e.symm, if_pos e]
        · rw [if_neg (fun h => e h.symm), if_neg e, if_neg (by omega)]
      · rename_i a1 a2
        have e1 : lkp v (p :: L) = none := lkp_gt fun q hq => by
          rcases List.mem_cons.1 hq with rfl | hq
          · omega
          · have := h1 q hq; omega
        rw [e1]
        show (if v = u then some x0 else lkp u (p :: L)) = if u = v then some x0 else lkp u (p :: L)
        by_cases e : u = v
        · rw [if_pos e.symm, if_pos e]
        · rw [if_neg (fun h => e h.symm), if_neg e]
theorem get_new : ∀ (n : Nat) (k k' : List Int) (e : α), k.length = n → k'.length = n → getON n (newON n k e) k' = if k' = k then some e else none
  | 0, [], [], e, _, _ => rfl
  | n + 1, v :: vs, u :: us, e, h, h' => by
    have ih := get_new n vs us e (by simpa using h) (by simpa using h')
    show (if v = u then some (newON n vs e) else none).bind _ = _
    by_cases hv : v = u
    · subst hv
      rw [if_pos rfl]
      show getON n (newON n vs e) us = _
      rw [ih]
      by_cases hu : us = vs
      · rw [if_pos hu, if_pos (by rw [hu])]
      · rw [if_neg hu, if_neg (fun h => hu (by injection h))]
    · rw [if_neg hv, if_neg (fun h => hv (by injection h with h1 _; exact h1.symm))]; rfl
/-- What a tree holds behind an addition. -/
theorem get_add : ∀ (n : Nat) (L : ON α n) (k k' : List Int) (e : α), SrtN n L → k.length = n → k'.length = n → getON n (addON n L k e) k' = if k' = k then some e else getON n L k'
  | 0, x, [], [], e, _, _, _ => rfl
  | n + 1, L, v :: vs, u :: us, e, ⟨h1, h2⟩, h, h' => by
    have hl : vs.length = n := by simpa using h
    have hl' : us.length = n := by simpa using h'
    show (lkp u (insL v (fun x => addON n x vs e) (newON n vs e) L)).bind _ = _
    rw [lkp_insL h1]
    by_cases hv : u = v
    · subst hv
      rw [if_pos rfl]
      show getON n _ us = if u :: us = u :: vs then some e else (lkp u L).bind fun x => getON n x us
      cases hk : lkp u (L : List (Int × ON α n)) with
      | none =>
        show getON n (newON n vs e) us = if u :: us = u :: vs then some e else none
        rw [get_new n vs us e hl hl']
        by_cases hu : us = vs
        · rw [if_pos hu, if_pos (by rw [hu])]
        · rw [if_neg hu, if_neg (fun h => hu (by injection h))]
      | some x =>
        have hx : SrtN n x := by
          have : ∀ {L : List (Int × ON α n)}, (∀ p ∈ L, SrtN n p.2) → lkp u L = some x → SrtN n x := fun {L} => by
            induction L with
            | nil => intro _ h; cases h
            | cons p L ih =>
              intro hs h
              unfold lkp at h
              split at h
              · injection h with h; rw [← h]; exact hs p List.mem_cons_self
              · exact ih (fun q hq => hs q (List.mem_cons_of_mem _ hq)) h
          exact this h2 hk
        show getON n (addON n x vs e) us = if u :: us = u :: vs then some e else getON n x us
        rw [get_add n x vs us e hx hl hl']
        by_cases hu : us = vs
        · rw [if_pos hu, if_pos (by rw [hu])]
        · rw [if_neg hu, if_neg (fun h => hu (by injection h))]
    · rw [if_neg hv, if_neg (fun h => hv (by injection h))]; rfl
/-! ## As one sorted list -/
def ltk : List Int → List Int → Prop
  | [], [] => False
  | [], _ :: _ => True
  | _ :: _, [] => False
  | a :: as, b :: bs => a < b ∨ (a = b ∧ ltk as bs)
theorem ltk_irrefl : ∀ a : List Int, ¬ ltk a a
  | [] => id
  | a :: as => fun h => by
    rcases h with h | ⟨_, h⟩
    · omega
    · exact ltk_irrefl as h
theorem ltk_trans : ∀ {a b c : List Int}, ltk a b → ltk b c → ltk a c
  | [], [], _, h, _ => h.elim
  | [], _ :: _, [], _, h => h.elim
  | [], _ :: _, _ :: _, _, _ => trivial
  | _ :: _, [], _, h, _ => h.elim
  | _ :: _, _ :: _, [], _, h => h.elim
  | a :: as, b :: bs, c :: cs, h, h' => by
    rcases h with h | ⟨rfl, h⟩ <;> rcases h' with h' | ⟨rfl, h'⟩
    · exact .inl (by omega)
    · exact .inl h
    · exact .inl h'
    · exact .inr ⟨rfl, ltk_trans h h'⟩
theorem ltk_tri : ∀ (a b : List Int), a.length = b.length → ltk a b ∨ a = b ∨ ltk b a
  | [], [], _ => .inr (.inl rfl)
  | a :: as, b :: bs, h => by
    rcases Int.lt_trichotomy a b with h1 | rfl | h1
    · exact .inl (.inl h1)
    · rcases ltk_tri as bs (by simpa using h) with h2 | rfl | h2
      · exact .inl (.inr ⟨rfl, h2⟩)
      · exact .inr (.inl rfl)
      · exact .inr (.inr (.inr ⟨rfl, h2⟩))
    · exact .inr (.inr (.inl h1))
def SrtK {β : Type} (l : List (List Int × β)) : Prop := l.Pairwise fun p q => ltk p.1 q.1
theorem srtk_uniq {β : Type} : ∀ {a b : List (List Int × β)}, SrtK a → SrtK b → (∀ p, p ∈ a ↔ p ∈ b) → a = b
  | [], [], _, _, _ => rfl
  | [], q :: b, _, _, h => by have := (h q).2 List.mem_cons_self; cases this
  | p :: a, [], _, _, h => by have := (h p).1 List.mem_cons_self; cases this
  | p :: a, q :: b, ha, hb, h => by
    obtain ⟨a1, a2⟩ := List.pairwise_cons.1 ha
    obtain ⟨b1, b2⟩ := List.pairwise_cons.1 hb
    have e : p = q := by
      rcases List.mem_cons.1 ((h p).1 List.mem_cons_self) with e | hp
      · exact e
      · rcases List.mem_cons.1 ((h q).2 List.mem_cons_self) with e | hq
        · exact e.symm
        · exact absurd (ltk_trans (a1 q hq) (b1 p hp)) (ltk_irrefl _)
    subst e
    rw [srtk_uniq a2 b2 fun r => ?_]
    constructor
    · intro hr
      rcases List.mem_cons.1 ((h r).1 (List.mem_cons_of_mem _ hr)) with rfl | hr'
      · exact absurd (a1 _ hr) (ltk_irrefl _)
      · exact hr'
    · intro hr
      rcases List.mem_cons.1 ((h r).2 (List.mem_cons_of_mem _ hr)) with rfl | hr'
      · exact absurd (b1 _ hr) (ltk_irrefl _)
      · exact hr'
theorem lkp_mem {β : Type} {v : Int} {x : β} : ∀ {L : List (Int × β)}, L.Pairwise (fun p q => p.1 < q.1) → (lkp v L = some x ↔ (v, x) ∈ L)
  | [], _ => by simp [lkp]
  | p :: L, h => by
    obtain ⟨h1, h2⟩ := List.pairwise_cons.1 h
    unfold lkp
    by_cases e : p.1 = v
    · rw [if_pos e]
      constructor
      · intro hx
        injection hx with hx
        rw [← e, ← hx]; exact List.mem_cons_self
      · intro hx
        rcases List.mem_cons.1 hx with hx | hx
        · rw [← hx]
        · have := h1 _ hx
          have : p.1 < v := this
          omega
    · rw [if_neg e, lkp_mem h2, List.mem_cons]
      constructor
      · exact .inr
      · rintro (hx | hx)
        · rw [← hx] at e; exact absurd rfl e
        · exact hx
theorem fltK_mem : ∀ (n : Nat) (L : ON α n) (k : List Int) (e : α), SrtN n L → ((k, e) ∈ fltK n L ↔ k.length = n ∧ getON n L k = some e)
  | 0, x, k, e, _ => by
    show (k, e) ∈ [([], x)] ↔ _
    rw [List.mem_singleton]
    constructor
    · intro h
      injection h with h1 h2
      exact ⟨by rw [h1]; rfl, by rw [h2]; rfl⟩
    · rintro ⟨h1, h2⟩
      have h2 : some x = some e := h2
      injection h2 with h2
      rw [List.length_eq_zero_iff.1 h1, h2]
  | n + 1, L, k, e, ⟨h1, h2⟩ => by
    have hf : (k, e) ∈ fltK (n + 1) L ↔ ∃ p ∈ (L : List (Int × ON α n)), ∃ q ∈ fltK n p.2, (p.1 :: q.1, q.2) = (k, e) := by
      show (k, e) ∈ List.flatMap _ _ ↔ _
      simp only [List.mem_flatMap, List.mem_map]
    rw [hf]
    constructor
    · rintro ⟨p, hp, q, hq, he⟩
      injection he with e1 e2
      obtain ⟨g1, g2⟩ := (fltK_mem n p.2 q.1 q.2 (h2 p hp)).1 hq
      refine ⟨by rw [← e1, List.length_cons, g1], ?_⟩
      rw [← e1]
      show (lkp p.1 L).bind _ = _
      rw [(lkp_mem h1).2 hp]
      show getON n p.2 q.1 = some e
      rw [← e2]; exact g2
    · rintro ⟨g1, g2⟩
      match k, g1 with
      | v :: vs, g1 =>
        have g2 : (lkp v (L : List (Int × ON α n))).bind (fun x => getON n x vs) = some e := g2
        obtain ⟨x, hx, hg⟩ := Option.bind_eq_some_iff.1 g2
        have hm := (lkp_mem h1).1 hx
        exact ⟨(v, x), hm, (vs, e), (fltK_mem n x vs e (h2 _ hm)).2 ⟨by simpa using g1, hg⟩, rfl⟩
theorem fltK_sorted : ∀ (n : Nat) (L : ON α n), SrtN n L → SrtK (fltK n L)
  | 0, x, _ => List.pairwise_singleton _ _
  | n + 1, L, ⟨h1, h2⟩ => by
    have : ∀ {L : List (Int × ON α n)}, L.Pairwise (fun p q => p.1 < q.1) → (∀ p ∈ L, SrtN n p.2) → SrtK (L.flatMap fun p => (fltK n p.2).map fun q => (p.1 :: q.1, q.2)) := fun {L} => by
      induction L with
      | nil => intro _ _; exact List.Pairwise.nil
      | cons p L ih =>
        intro h1 h2
        obtain ⟨a1, a2⟩ := List.pairwise_cons.1 h1
        rw [List.flatMap_cons]
        refine List.pairwise_append.2 ⟨?_, ih a2 fun q hq => h2 q (List.mem_cons_of_mem _ hq), fun x hx y hy => ?_⟩
        · rw [List.pairwise_map]
          exact (fltK_sorted n p.2 (h2 p List.mem_cons_self)).imp fun h => .inr ⟨rfl, h⟩
        · obtain ⟨q, _, rfl⟩ := List.mem_map.1 hx
          obtain ⟨r, hr, hy⟩ := List.mem_flatMap.1 hy
          obtain ⟨s, _, rfl⟩ := List.mem_map.1 hy
          exact .inl (a1 r hr)
    exact this h1 h2
end
end Go.Proofs.Ytfokodpnoiilbaa.E
