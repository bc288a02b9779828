/-
  Range trees, plain: an entry is taken.
-/
import Derived.Test.YtfokodpnoiilbaaGreatRR
import Derived.Test.YtfokodpnoiilbaaGreatQQ
import Derived.Test.YtfokodpnoiilbaaGreatFnsI
import Derived.Test.YtfokodpnoiilbaaGreatFnsG
namespace Go.Proofs.YtfokodpnoiilbaaGreat.E
set_option linter.unusedSimpArgs false
set_option linter.unusedVariables false

section
variable {α : Type}
/-- A key's value is turned, or the key is taken. -/
def turnL {β : Type} (v : Int) (f : β → Option β) : List (Int × β) → List (Int × β)
  | [] => []
  | p :: L => if p.1 = v then (match f p.2 with | some x => (v, x) :: L | none => L) else p :: turnL v f L
/-- What is left of a tree without a key; none: nothing. -/
def delO : (n : Nat) → ON α n → List Int → Option (ON α n)
  | 0, _, _ => none
  | n + 1, L, [] => some L
  | n + 1, L, v :: vs => match turnL v (fun x => delO n x vs) (L : List (Int × ON α n)) with
    | [] => none
    | p :: L' => some ((p :: L' : List (Int × ON α n)))
theorem mem_turnL {β : Type} {v : Int} {f : β → Option β} : ∀ {L : List (Int × β)} {q : Int × β}, q ∈ turnL v f L → q ∈ L ∨ (q.1 = v ∧ ∃ p ∈ L, p.1 = v ∧ f p.2 = some q.2)
  | [], q, h => by cases h
  | p :: L, q, h => by
    unfold turnL at h
    split at h
    · rename_i e
      split at h
      · rename_i x hx
        rcases List.mem_cons.1 h with rfl | h
        · exact .inr ⟨rfl, p, List.mem_cons_self, e, hx⟩
        · exact .inl (List.mem_cons_of_mem _ h)
      · exact .inl (List.mem_cons_of_mem _ h)
    · rcases List.mem_cons.1 h with rfl | h
      · exact .inl List.mem_cons_self
      · rcases mem_turnL h with h | ⟨h1, p', h2, h3⟩
        · exact .inl (List.mem_cons_of_mem _ h)
        · exact .inr ⟨h1, p', List.mem_cons_of_mem _ h2, h3⟩
theorem turnL_sorted {β : Type} {v : Int} {f : β → Option β} : ∀ {L : List (Int × β)}, L.Pairwise (fun p q => p.1 < q.1) → (turnL v f L).Pairwise (fun p q => p.1 < q.1)
  | [], _ => List.Pairwise.nil
  | p :: L, h => by
    obtain ⟨h1, h2⟩ := List.pairwise_cons.1 h
    unfold turnL
    split
    · rename_i e
      split
      · exact List.pairwise_cons.2 ⟨fun q hq => by have := h1 q hq; show v < q.1; omega, h2⟩
      · exact h2
    · refine List.pairwise_cons.2 ⟨fun q hq => ?_, turnL_sorted h2⟩
      rcases mem_turnL hq with hq | ⟨e, p', hp', e', _⟩
      · exact h1 q hq
      · have := h1 p' hp'; omega
theorem lkp_turnL {β : Type} {v u : Int} {f : β → Option β} : ∀ {L : List (Int × β)}, L.Pairwise (fun p q => p.1 < q.1) → lkp u (turnL v f L) = if u = v then (lkp v L).bind f else lkp u L
  | [], _ => by
    show none = _
    split <;> rfl
  | p :: L, h => by
    obtain ⟨h1, h2⟩ := List.pairwise_cons.1 h
    have ih := lkp_turnL (v := v) (u := u) (f := f) h2
    have e0 : ∀ z, lkp z (p :: L) = if p.1 = z then some p.2 else lkp z L := fun z => rfl
    have gt : ∀ z, z ≤ p.1 → lkp z L = none := fun z hz => lkp_gt fun q hq => by have := h1 q hq; omega
    unfold turnL
    rw [e0 v, e0 u]
    by_cases e : p.1 = v
    · rw [if_pos e, if_pos e]
      by_cases eu : u = v
      · subst eu
        rw [if_pos rfl]
        show _ = f p.2
        cases hf : f p.2 with
        | none => exact gt u (by omega)
        | some x => show (if u = u then some x else _) = _; rw [if_pos rfl]
      · rw [if_neg eu, if_neg (by omega)]
        cases hf : f p.2 with
        | none => rfl
        | some x => show (if v = u then some x else lkp u L) = _; rw [if_neg (fun h => eu h.symm)]
    · rw [if_neg e, if_neg e]
      show (if p.1 = u then some p.2 else lkp u (turnL v f L)) = _
      rw [ih]
      by_cases eu : p.1 = u
      · rw [if_pos eu, if_pos eu, if_neg (by omega)]
      · rw [if_neg eu, if_neg eu]
theorem srt_del : ∀ (n : Nat) (L : ON α n) (k : List Int) (M : ON α n), SrtN n L → delO n L k = some M → SrtN n M
  | 0, L, k, M, _, h => trivial
  | n + 1, L, [], M, hs, h => by
    have h : some L = some M := h
    injection h with h; rw [← h]; exact hs
  | n + 1, L, v :: vs, M, ⟨h1, h2⟩, h => by
    have hM : (M : List (Int × ON α n)) = turnL v (fun x => delO n x vs) (L : List (Int × ON α n)) := by
      unfold delO at h
      split at h
      · cases h
      · rename_i p L' he
        injection h with h
        rw [he, ← h]
    refine ⟨by rw [hM]; exact turnL_sorted h1, fun p hp => ?_⟩
    rw [hM] at hp
    rcases mem_turnL hp with hp | ⟨_, q, hq, _, hf⟩
    · exact h2 p hp
    · exact srt_del n q.2 vs p.2 (h2 q hq) hf
theorem get_del : ∀ (n : Nat) (L : ON α n) (k k' : List Int), SrtN n L → k.length = n → k'.length = n → (delO n L k).bind (fun M => getON n M k') = if k' = k then none else getON n L k'
  | 0, x, [], [], _, _, _ => rfl
  | n + 1, L, v :: vs, u :: us, ⟨h1, h2⟩, h, h' => by
    have hl : vs.length = n := by simpa using h
    have hl' : us.length = n := by simpa using h'
    have e : (delO (n + 1) L (v :: vs)).bind (fun M => getON (n + 1) M (u :: us)) = (lkp u (turnL v (fun x => delO n x vs) (L : List (Int × ON α n)))).bind fun x => getON n x us := by
      have gen : ∀ T : List (Int × ON α n), (match T with | [] => none | p :: L' => some ((p :: L' : List (Int × ON α n))) : Option (ON α (n + 1))).bind (fun M => getON (n + 1) M (u :: us)) = (lkp u T).bind fun x => getON n x us := fun T => by
        cases T with
        | nil => rfl
        | cons p L' => rfl
      exact gen _
    rw [e, lkp_turnL h1]
    show _ = if u :: us = v :: vs then none else (lkp u (L : List (Int × ON α n))).bind fun x => getON n x us
    by_cases hv : u = v
    · subst hv
      rw [if_pos rfl]
      cases hk : lkp u (L : List (Int × ON α n)) with
      | none =>
        show none = if u :: us = u :: vs then none else none
        split <;> rfl
      | some x =>
        have hx : SrtN n x := lkp_srt (Q := SrtN n) h1 h2 hk
        show (delO n x vs).bind (fun M => getON n M us) = if u :: us = u :: vs then none else getON n x us
        rw [get_del n x vs us hx hl hl']
        by_cases hu : us = vs
        · rw [if_pos hu, if_pos (by rw [hu])]
        · rw [if_neg hu, if_neg (fun h => hu (by injection h))]
    · rw [if_neg hv, if_neg (fun h => hv (by injection h))]
end
end Go.Proofs.YtfokodpnoiilbaaGreat.E

namespace Go.Proofs.YtfokodpnoiilbaaGreat.E
open Go
set_option linter.unusedSimpArgs false
set_option linter.unusedVariables false
set_option maxRecDepth 100000
set_option maxHeartbeats 8000000

section
variable {α β : Type}
theorem turn_map {γ δ : Type} {h : γ → δ} {f : γ → Option γ} {g : δ → Option δ} {v : Int} : ∀ {L : List (Int × γ)}, (∀ p ∈ L, (f p.2).map h = g (h p.2)) → (turnL v f L).map (fun p => (p.1, h p.2)) = turnL v g (L.map fun p => (p.1, h p.2))
  | [], _ => rfl
  | p :: L, H => by
    have h0 := H p List.mem_cons_self
    have ih := turn_map (v := v) (f := f) (g := g) (L := L) fun q hq => H q (List.mem_cons_of_mem _ hq)
    show List.map (fun p => (p.1, h p.2)) (if p.1 = v then (match f p.2 with | some x => (v, x) :: L | none => L) else p :: turnL v f L) = (if p.1 = v then (match g (h p.2) with | some x => (v, x) :: L.map (fun p => (p.1, h p.2)) | none => L.map fun p => (p.1, h p.2)) else (p.1, h p.2) :: turnL v g (L.map fun p => (p.1, h p.2)))
    by_cases e : p.1 = v
    · rw [if_pos e, if_pos e, ← h0]
      cases f p.2 <;> rfl
    · rw [if_neg e, if_neg e, List.map_cons, ih]
theorem mapON_delO (f : α → β) : ∀ (n : Nat) (L : ON α n) (k : List Int), (delO n L k).map (mapON n f) = delO n (mapON n f L) k
  | 0, _, _ => rfl
  | n + 1, L, [] => rfl
  | n + 1, L, v :: vs => by
    have e : (turnL v (fun x => delO n x vs) (L : List (Int × ON α n))).map (fun p => (p.1, mapON n f p.2)) = turnL v (fun x => delO n x vs) ((L : List (Int × ON α n)).map fun p => (p.1, mapON n f p.2)) := turn_map fun p _ => mapON_delO f n p.2 vs
    have gen : ∀ (T : List (Int × ON α n)) (T' : List (Int × ON β n)), T.map (fun p => (p.1, mapON n f p.2)) = T' → (match T with | [] => none | p :: L' => some ((p :: L' : List (Int × ON α n))) : Option (ON α (n + 1))).map (mapON (n + 1) f) = (match T' with | [] => none | p :: L' => some ((p :: L' : List (Int × ON β n))) : Option (ON β (n + 1))) := fun T T' h => by
      subst h
      cases T <;> rfl
    exact gen _ _ e
/-- A tree without a key: its first level stays. -/
def delT : (n : Nat) → ON α n → List Int → ON α n
  | 0, L, _ => L
  | n + 1, L, [] => L
  | n + 1, L, v :: vs => (turnL v (fun x => delO n x vs) (L : List (Int × ON α n)) : List (Int × ON α n))
theorem delO_T (n : Nat) (L : ON α (n + 1)) (v : Int) (vs : List Int) : delO (n + 1) L (v :: vs) = (match (delT (n + 1) L (v :: vs) : List (Int × ON α n)) with | [] => none | p :: L' => some ((p :: L' : List (Int × ON α n)))) := rfl
theorem mapON_delT (f : α → β) : ∀ (n : Nat) (L : ON α n) (k : List Int), mapON n f (delT n L k) = delT n (mapON n f L) k
  | 0, _, _ => rfl
  | n + 1, L, [] => rfl
  | n + 1, L, v :: vs => turn_map fun p _ => mapON_delO f n p.2 vs
theorem srt_delT : ∀ (n : Nat) (L : ON α n) (k : List Int), SrtN n L → SrtN n (delT n L k)
  | 0, L, k, _ => trivial
  | n + 1, L, [], h => h
  | n + 1, L, v :: vs, ⟨h1, h2⟩ => by
    refine ⟨turnL_sorted h1, fun p hp => ?_⟩
    rcases mem_turnL hp with hp | ⟨_, q, hq, _, hf⟩
    · exact h2 p hp
    · exact srt_del n q.2 vs p.2 (h2 q hq) hf
theorem sz_turn {g : β → Nat} {v : Int} {f : β → Option β} {x : β} : ∀ {L : List (Int × β)}, lkp v L = some x → (f x).elim 0 g + 1 = g x → ((turnL v f L).map fun p => g p.2).sum + 1 = (L.map fun p => g p.2).sum
  | [], h, _ => by cases h
  | p :: L, h, hf => by
    have h : (if p.1 = v then some p.2 else lkp v L) = some x := h
    show ((if p.1 = v then (match f p.2 with | some x => (v, x) :: L | none => L) else p :: turnL v f L).map fun p => g p.2).sum + 1 = _
    by_cases e : p.1 = v
    · rw [if_pos e] at h ⊢
      injection h with h
      rw [h, List.map_cons, List.sum_cons, h, ← hf]
      cases f x with
      | none => show (L.map fun p => g p.2).sum + 1 = 0 + 1 + (L.map fun p => g p.2).sum; omega
      | some y => rw [List.map_cons, List.sum_cons]; show g y + _ + 1 = g y + 1 + _; omega
    · rw [if_neg e] at h ⊢
      have ih := sz_turn (f := f) h hf
      rw [List.map_cons, List.sum_cons, List.map_cons, List.sum_cons]
      omega
theorem szN_delO : ∀ (n : Nat) (L : ON α n) (k : List Int), (getON n L k).isSome = true → k.length = n → (delO n L k).elim 0 (szN n) + 1 = szN n L
  | 0, _, _, _, _ => rfl
  | n + 1, L, v :: vs, h, hl => by
    have h : ((lkp v (L : List (Int × ON α n))).bind fun x => getON n x vs).isSome = true := h
    cases hk : lkp v (L : List (Int × ON α n)) with
    | none => rw [hk] at h; cases h
    | some x =>
      rw [hk] at h
      have h : (getON n x vs).isSome = true := h
      have ih := szN_delO n x vs h (by simpa using hl)
      have e := sz_turn (g := szN n) (f := fun x => delO n x vs) hk ih
      rw [szN_succ, ← e]
      have gen : ∀ T : List (Int × ON α n), (match T with | [] => none | p :: L' => some ((p :: L' : List (Int × ON α n))) : Option (ON α (n + 1))).elim 0 (szN (n + 1)) = (T.map fun p => szN n p.2).sum := fun T => by
        cases T with
        | nil => rfl
        | cons p T => exact szN_succ n ((p :: T : List (Int × ON α n)))
      exact congrArg (· + 1) (gen _)
theorem szN_delT (n : Nat) (L : ON α n) (k : List Int) (hn : 1 ≤ n) (h : (getON n L k).isSome = true) (hl : k.length = n) : szN n (delT n L k) + 1 = szN n L := by
  match n, L, k, hl with
  | n + 1, L, v :: vs, hl =>
    have h : ((lkp v (L : List (Int × ON α n))).bind fun x => getON n x vs).isSome = true := h
    cases hk : lkp v (L : List (Int × ON α n)) with
    | none => rw [hk] at h; cases h
    | some x =>
      rw [hk] at h
      have h : (getON n x vs).isSome = true := h
      have ih := szN_delO n x vs h (by simpa using hl)
      have e := sz_turn (g := szN n) (f := fun x => delO n x vs) hk ih
      rw [szN_succ, szN_succ]
      exact e
theorem turn_mid {v : Int} {f : β → Option β} {y : β} {B : List (Int × β)} : ∀ {A : List (Int × β)}, (∀ p ∈ A, p.1 ≠ v) → turnL v f (A ++ (v, y) :: B) = (match f y with | some z => A ++ (v, z) :: B | none => A ++ B)
  | [], _ => by
    show (if v = v then (match f y with | some x => (v, x) :: B | none => B) else _) = _
    rw [if_pos rfl]; rfl
  | p :: A, h => by
    show (if p.1 = v then _ else p :: turnL v f (A ++ (v, y) :: B)) = _
    rw [if_neg (h p List.mem_cons_self), turn_mid fun q hq => h q (List.mem_cons_of_mem _ hq)]
    cases f y <;> rfl
end
/-! ## By entries -/
def delE (dm : Nat) (L : ON (Option Dtn) dm) (e : Dtn) : ON (Option Dtn) dm := if (getON dm L (kyD e dm 1)).isNone = true then L else delT dm L (kyD e dm 1)
def delsE (dm : Nat) (L : ON (Option Dtn) dm) (ys : List Dtn) : ON (Option Dtn) dm := ys.foldl (delE dm) L
def goneE (dm : Nat) : ON (Option Dtn) dm → List Dtn → List (Option Dtn)
  | _, [] => []
  | L, y :: ys => oldE dm L y :: goneE dm (delE dm L y) ys
theorem delsE_snoc (dm : Nat) (L : ON (Option Dtn) dm) (ys : List Dtn) (e : Dtn) : delsE dm L (ys ++ [e]) = delE dm (delsE dm L ys) e := by unfold delsE; rw [List.foldl_append]; rfl
theorem goneE_snoc (dm : Nat) : ∀ (ys : List Dtn) (L : ON (Option Dtn) dm) (e : Dtn), goneE dm L (ys ++ [e]) = goneE dm L ys ++ [oldE dm (delsE dm L ys) e]
  | [], _, _ => rfl
  | y :: ys, L, e => by
    show oldE dm L y :: goneE dm (delE dm L y) (ys ++ [e]) = oldE dm L y :: goneE dm (delE dm L y) ys ++ [oldE dm (delsE dm (delE dm L y) ys) e]
    rw [goneE_snoc dm ys]; rfl
theorem goneE_length (dm : Nat) : ∀ (ys : List Dtn) (L : ON (Option Dtn) dm), (goneE dm L ys).length = ys.length
  | [], _ => rfl
  | y :: ys, L => by show (goneE dm _ ys).length + 1 = _; rw [goneE_length dm ys]; rfl
theorem szN_delE (dm : Nat) (L : ON (Option Dtn) dm) (e : Dtn) (hn : 1 ≤ dm) : szN dm (delE dm L e) + (if (getON dm L (kyD e dm 1)).isNone = true then 0 else 1) = szN dm L := by
  unfold delE
  cases h : getON dm L (kyD e dm 1) with
  | none => rfl
  | some y => exact szN_delT dm L _ hn (by rw [h]; rfl) (kyD_len e dm 1)
theorem szN_delsE (dm : Nat) (hn : 1 ≤ dm) : ∀ (ys : List Dtn) (L : ON (Option Dtn) dm), szN dm (delsE dm L ys) ≤ szN dm L
  | [], _ => Nat.le_refl _
  | y :: ys, L => by
    have h1 := szN_delsE dm hn ys (delE dm L y)
    have h2 := szN_delE dm L y hn
    show szN dm (delsE dm (delE dm L y) ys) ≤ _
    omega
def delP (dm : Nat) (M : OP dm) (x : PD) : OP dm := if (getON dm M (kyP x.1 dm 1)).isNone = true then M else delT dm M (kyP x.1 dm 1)
def delsP (dm : Nat) (M : OP dm) (xs : List PD) : OP dm := xs.foldl (delP dm) M
def goneP (dm : Nat) : OP dm → List PD → List (Option PD)
  | _, [] => []
  | M, x :: xs => oldP dm M x :: goneP dm (delP dm M x) xs
theorem goneP_length (dm : Nat) : ∀ (xs : List PD) (M : OP dm), (goneP dm M xs).length = xs.length
  | [], _ => rfl
  | x :: xs, M => by show (goneP dm _ xs).length + 1 = _; rw [goneP_length dm xs]; rfl
theorem mapE_del (dm : Nat) (L : ON (Option Dtn) dm) (e : Dtn) : mapE dm (delE dm L e) = delP dm (mapE dm L) e.pl := by
  unfold mapE delE delP
  rw [getON_map, kyD_kyP, ← mapON_delT]
  show _ = if ((getON dm L (kyP e.pos dm 1)).map _).isNone = true then _ else _
  cases getON dm L (kyP e.pos dm 1) <;> rfl
theorem mapE_dels (dm : Nat) : ∀ (ys : List Dtn) (L : ON (Option Dtn) dm), mapE dm (delsE dm L ys) = delsP dm (mapE dm L) (ys.map Dtn.pl)
  | [], L => rfl
  | y :: ys, L => by
    show mapE dm (delsE dm (delE dm L y) ys) = delsP dm (delP dm (mapE dm L) y.pl) (ys.map Dtn.pl)
    rw [mapE_dels dm ys, mapE_del]
theorem mapE_gone (dm : Nat) : ∀ (ys : List Dtn) (L : ON (Option Dtn) dm), (goneE dm L ys).map (Option.map Dtn.pl) = goneP dm (mapE dm L) (ys.map Dtn.pl)
  | [], L => rfl
  | y :: ys, L => by
    show (oldE dm L y).map Dtn.pl :: (goneE dm (delE dm L y) ys).map _ = oldP dm (mapE dm L) y.pl :: goneP dm (delP dm (mapE dm L) y.pl) (ys.map Dtn.pl)
    rw [mapE_gone dm ys, mapE_del, mapE_old]
/-! ## In nodes -/
section
variable {tb m i x c : Nat} {e : Dtn} {D : List Nat} {s s' : RSt} {A B : List Nat}
/-- A child is out of its node's list; what was below it may have turned. -/
theorem taken (hk : (s x).kids = A ++ c :: B) (nd : (x :: rch (m + 1) s x).Nodup) (out : ∀ y ∈ x :: rch (m + 1) s x, y ≠ x → y ≠ c → y ∉ rch m s c → s' y = s y) (hx : (s' x).kids = A ++ B) :
    absN (m + 1) s' x = lvl m s A ++ lvl m s B ∧ (x :: rch (m + 1) s' x).Nodup ∧ ∀ y ∈ rch (m + 1) s' x, y ∈ rch (m + 1) s x := by
  have hr : rch (m + 1) s x = rcl m s A ++ ((c :: rch m s c) ++ rcl m s B) := by
    show rcl m s (s x).kids = _
    rw [hk, rcl_append, rcl_cons]
  rw [hr] at nd out
  have nd0 := nd
  simp only [List.nodup_cons, List.nodup_append, List.mem_append, List.mem_cons, not_or] at nd0
  obtain ⟨⟨a1, a2, a3⟩, b1, ⟨c1, c2, c3⟩, d⟩ := nd0
  obtain ⟨eA, eA'⟩ := lvl_congr (m := m) (s := s) (s' := s') (l := A) fun y hy => out y (List.mem_cons_of_mem _ (List.mem_append_left _ hy)) (fun e => a1 (e ▸ hy)) (fun e => d y hy c (.inl (.inl rfl)) e) fun h => d y hy y (.inl (.inr h)) rfl
  obtain ⟨eB, eB'⟩ := lvl_congr (m := m) (s := s) (s' := s') (l := B) fun y hy => out y (List.mem_cons_of_mem _ (List.mem_append_right _ (List.mem_append_right _ hy))) (fun e => a3 (e ▸ hy)) (fun e => c3 c (.inl rfl) y hy e.symm) fun h => c3 y (.inr h) y hy rfl
  have hr' : rch (m + 1) s' x = rcl m s A ++ ([] ++ rcl m s B) := by
    show rcl m s' (s' x).kids = _
    rw [hx, rcl_append, eA', eB', List.nil_append]
  refine ⟨?_, ?_, fun y hy => ?_⟩
  · show lvl m s' (s' x).kids = _
    rw [hx, lvl_append, eA, eB]
  · rw [hr']
    exact nodup_mid nd List.nodup_nil fun y hy => by cases hy
  · rw [hr'] at hy
    rw [hr]
    rcases List.mem_append.1 hy with hy | hy
    · exact List.mem_append_left _ hy
    · exact List.mem_append_right _ (List.mem_append_right _ hy)
/-- What a removal leaves below a node. -/
structure DPost (tb m i : Nat) (e : Dtn) (x : Nat) (D : List Nat) (s s' : RSt) : Prop where
  out : ∀ y, (y = tb ∨ y ∈ D) → y ≠ x → y ∉ rch (m + 1) s x → s' y = s y
  v : ∀ y, (s' y).v = (s y).v
  en : ∀ y, (s' y).e = (s y).e
  ab : absN (m + 1) s' x = delT (m + 1) (absN (m + 1) s x) (kyD e (m + 1) i)
  nd : (x :: rch (m + 1) s' x).Nodup
  rc : ∀ y ∈ rch (m + 1) s' x, y ∈ rch (m + 1) s x
  kl : ∀ b, (s' b).kids.length ≤ (s b).kids.length
theorem lvl_ne {A B : List Nat} (hs : (lvl m s (A ++ c :: B)).Pairwise (fun p q => p.1 < q.1)) : ∀ p ∈ lvl m s A, p.1 ≠ (s c).v := fun p hp => by
  rw [lvl_append, lvl_cons] at hs
  have := (List.pairwise_append.1 hs).2.2 p hp _ List.mem_cons_self
  have : p.1 < (s c).v := this
  omega
/-- The list without a child. -/
def cutK (s : RSt) (x j : Nat) : List Nat := (s x).kids.take j ++ (s x).kids.drop (j + 1)
theorem kids_at {j : Nat} (hj : (s x).kids[j]? = some c) : (s x).kids = (s x).kids.take j ++ c :: (s x).kids.drop (j + 1) := by
  obtain ⟨hjl, hjc⟩ := List.getElem?_eq_some_iff.1 hj
  rw [← hjc, List.getElem_cons_drop, List.take_append_drop]
/-- At the last level. -/
theorem DPost.base {p' : Option Addr} {c' j : Nat} (nd : (x :: rch (0 + 1) s x).Nodup) (hs : SrtN (0 + 1) (absN (0 + 1) s x)) (hj : (s x).kids[j]? = some c) (hv : (s c).v = plI e.pos i) :
    DPost tb 0 i e x D s (upR s x { s x with p := p', c := c', kids := cutK s x j }) := by
  have hk := kids_at hj
  obtain ⟨t1, t2, t3⟩ := taken (m := 0) (s' := upR s x { s x with p := p', c := c', kids := cutK s x j }) hk nd (fun y _ h _ _ => upR_ne h) (by rw [upR_same]; rfl)
  refine ⟨fun y _ h _ => upR_ne h, fun y => ?_, fun y => ?_, ?_, t2, t3, fun b => ?_⟩
  · by_cases h : y = x
    · rw [h, upR_same]
    · rw [upR_ne h]
  · by_cases h : y = x
    · rw [h, upR_same]
    · rw [upR_ne h]
  · rw [t1]
    show _ = turnL (plI e.pos i) (fun y => delO 0 y []) (lvl 0 s (s x).kids)
    have hs1 : (lvl 0 s (s x).kids).Pairwise (fun p q => p.1 < q.1) := hs.1
    rw [hk] at hs1
    conv => rhs; rw [hk]
    have hne := lvl_ne hs1
    rw [lvl_append, lvl_cons, hv, turn_mid (by rw [← hv]; exact hne)]
    rfl
  · by_cases h : b = x
    · rw [h, upR_same]
      show (cutK s x j).length ≤ _
      unfold cutK; simp; omega
    · rw [upR_ne h]; exact Nat.le_refl _
/-- The child stays. -/
theorem DPost.up {j : Nat} {s1 : RSt} (h : Kd tb D s) (hx : x = tb ∨ x ∈ D) (nd : (x :: rch (m + 1 + 1) s x).Nodup) (hs : SrtN (m + 1 + 1) (absN (m + 1 + 1) s x)) (hj : (s x).kids[j]? = some c) (hv : (s c).v = plI e.pos i) (p : DPost tb m (i + 1) e c D s s1) (hne : (s1 c).kids ≠ []) :
    DPost tb (m + 1) i e x D s s1 := by
  have hk := kids_at hj
  have hc : c ∈ (s x).kids := List.mem_of_getElem? hj
  have hD : ∀ y ∈ x :: rch (m + 1 + 1) s x, y = tb ∨ y ∈ D := fun y hy => by
    rcases List.mem_cons.1 hy with rfl | hy
    · exact hx
    · exact .inr (rch_D _ h hx y hy)
  obtain ⟨c1, c2, c3, c4⟩ := child (s' := s1) hk nd (fun y hy h1 h2 => p.out y (hD y hy) h1 h2) (p.v c) p.nd fun y hy => .inl (p.rc y hy)
  refine ⟨fun y hy h1 h2 => p.out y hy (fun e => h2 (e ▸ List.mem_flatMap.2 ⟨c, hc, List.mem_cons_self⟩)) fun hy' => h2 (List.mem_flatMap.2 ⟨c, hc, List.mem_cons_of_mem _ hy'⟩), p.v, p.en, ?_, c3, fun y hy => ?_, p.kl⟩
  · have hs1 : (lvl (m + 1) s (s x).kids).Pairwise (fun p q => p.1 < q.1) := hs.1
    rw [hk] at hs1
    rw [c2]
    show _ = turnL (plI e.pos i) (fun y => delO (m + 1) y (kyD e (m + 1) (i + 1))) (lvl (m + 1) s (s x).kids)
    conv => rhs; rw [hk]
    have hne' := lvl_ne hs1
    rw [lvl_append, lvl_cons, hv, turn_mid (by rw [← hv]; exact hne')]
    have hT := p.ab
    have hT1 : absN (m + 1) s1 c ≠ ([] : List (Int × ON (Option Dtn) m)) := fun h0 => by
      have h0 : (s1 c).kids.map (fun c => ((s1 c).v, absN m s1 c)) = [] := h0
      exact hne (List.map_eq_nil_iff.1 h0)
    have hO : delO (m + 1) (absN (m + 1) s c) (kyD e (m + 1) (i + 1)) = some (absN (m + 1) s1 c) := by
      show delO (m + 1) (absN (m + 1) s c) (plI e.pos (i + 1) :: kyD e m (i + 1 + 1)) = _
      rw [delO_T]
      have hT : (delT (m + 1) (absN (m + 1) s c) (plI e.pos (i + 1) :: kyD e m (i + 1 + 1)) : List (Int × ON (Option Dtn) m)) = absN (m + 1) s1 c := hT.symm
      rw [hT]
      cases hq : (absN (m + 1) s1 c : List (Int × ON (Option Dtn) m)) with
      | nil => exact absurd hq hT1
      | cons p T => rfl
    rw [hO]
  · rcases c4 y hy with h1 | h1
    · exact h1
    · exact List.mem_flatMap.2 ⟨c, hc, List.mem_cons_of_mem _ (p.rc y h1)⟩
/-- The node of the child has not turned. -/
theorem DPost.at {s1 : RSt} (h : Kd tb D s) (hx : x = tb ∨ x ∈ D) (nd : (x :: rch (m + 1 + 1) s x).Nodup) (hc : c ∈ (s x).kids) (p : DPost tb m (i + 1) e c D s s1) : s1 x = s x := by
  have nd1 := (List.nodup_cons.1 nd).1
  exact p.out x hx (fun e => nd1 (List.mem_flatMap.2 ⟨c, hc, e ▸ List.mem_cons_self⟩)) fun hy => nd1 (List.mem_flatMap.2 ⟨c, hc, List.mem_cons_of_mem _ hy⟩)
theorem DPost.keys {s1 : RSt} (h : Kd tb D s) (hx : x = tb ∨ x ∈ D) (nd : (x :: rch (m + 1 + 1) s x).Nodup) (hc : c ∈ (s x).kids) (p : DPost tb m (i + 1) e c D s s1) : keysR s1 x = keysR s x := by
  unfold keysR
  rw [p.at h hx nd hc]
  exact List.map_congr_left fun y _ => p.v y
/-- The child goes, too. -/
theorem DPost.cut {p' : Option Addr} {c' j : Nat} {s1 : RSt} (h : Kd tb D s) (hx : x = tb ∨ x ∈ D) (nd : (x :: rch (m + 1 + 1) s x).Nodup) (hs : SrtN (m + 1 + 1) (absN (m + 1 + 1) s x)) (hj : (s x).kids[j]? = some c) (hv : (s c).v = plI e.pos i) (p : DPost tb m (i + 1) e c D s s1) (hne : (s1 c).kids = []) :
    DPost tb (m + 1) i e x D s (upR s1 x { s1 x with p := p', c := c', kids := cutK s1 x j }) := by
  have hk := kids_at hj
  have hc : c ∈ (s x).kids := List.mem_of_getElem? hj
  have hD : ∀ y ∈ x :: rch (m + 1 + 1) s x, y = tb ∨ y ∈ D := fun y hy => by
    rcases List.mem_cons.1 hy with rfl | hy
    · exact hx
    · exact .inr (rch_D _ h hx y hy)
  obtain ⟨c1, c2, c3, c4⟩ := child (s' := s1) hk nd (fun y hy h1 h2 => p.out y (hD y hy) h1 h2) (p.v c) p.nd fun y hy => .inl (p.rc y hy)
  have hcut : cutK s1 x j = cutK s x j := by unfold cutK; rw [c1]
  obtain ⟨t1, t2, t3⟩ := taken (m := m + 1) (s' := upR s1 x { s1 x with p := p', c := c', kids := cutK s1 x j }) hk nd (fun y hy h1 h2 h3 => by rw [upR_ne h1]; exact p.out y (hD y hy) h2 h3) (by rw [upR_same]; exact hcut)
  refine ⟨fun y hy h1 h2 => ?_, fun y => ?_, fun y => ?_, ?_, t2, t3, fun b => ?_⟩
  · rw [upR_ne h1]
    exact p.out y hy (fun e => h2 (e ▸ List.mem_flatMap.2 ⟨c, hc, List.mem_cons_self⟩)) fun hy' => h2 (List.mem_flatMap.2 ⟨c, hc, List.mem_cons_of_mem _ hy'⟩)
  · by_cases h : y = x
    · rw [h, upR_same]; exact p.v x
    · rw [upR_ne h]; exact p.v y
  · by_cases h : y = x
    · rw [h, upR_same]; exact p.en x
    · rw [upR_ne h]; exact p.en y
  · have hs1 : (lvl (m + 1) s (s x).kids).Pairwise (fun p q => p.1 < q.1) := hs.1
    rw [hk] at hs1
    rw [t1]
    show _ = turnL (plI e.pos i) (fun y => delO (m + 1) y (kyD e (m + 1) (i + 1))) (lvl (m + 1) s (s x).kids)
    conv => rhs; rw [hk]
    have hne' := lvl_ne hs1
    rw [lvl_append, lvl_cons, hv, turn_mid (by rw [← hv]; exact hne')]
    have hT := p.ab
    have hT1 : absN (m + 1) s1 c = ([] : List (Int × ON (Option Dtn) m)) := by
      show (s1 c).kids.map (fun c => ((s1 c).v, absN m s1 c)) = []
      rw [hne]; rfl
    have hO : delO (m + 1) (absN (m + 1) s c) (kyD e (m + 1) (i + 1)) = none := by
      show delO (m + 1) (absN (m + 1) s c) (plI e.pos (i + 1) :: kyD e m (i + 1 + 1)) = _
      rw [delO_T]
      have hT : (delT (m + 1) (absN (m + 1) s c) (plI e.pos (i + 1) :: kyD e m (i + 1 + 1)) : List (Int × ON (Option Dtn) m)) = absN (m + 1) s1 c := hT.symm
      rw [hT, hT1]
    rw [hO]
  · by_cases h : b = x
    · rw [h, upR_same]
      show (cutK s1 x j).length ≤ _
      rw [hcut]
      unfold cutK; simp; omega
    · rw [upR_ne h]; exact p.kl b
end
end Go.Proofs.YtfokodpnoiilbaaGreat.E

namespace Go.Proofs.YtfokodpnoiilbaaGreat.E
open Go
set_option linter.unusedSimpArgs false
set_option linter.unusedVariables false
set_option maxRecDepth 100000
set_option maxHeartbeats 8000000

section
variable {key : Value → Int} {w : World} {k : Value → W} {sl : Nat} {F : Nat → Prop} {vs : List Value}
/-- Delete of one. -/
theorem F70_one {q : Value} {kq : Int} {p : Option Addr} {c : Nat} (K : SK key w sl F vs) (hlen : vs.length < 4294967295) (hC : CmpOk key F w vs q kq) (h1 : ∀ v ∈ vs, One1 v) (O : Own w 115 p 1 c [q])
    (hk : ∀ w' F' p' c', SK key w' sl F' (delV key kq vs) → Fr F w w' → (∀ b, F' b → F b) → Own w' 115 p' 1 c' [(findV key kq vs).getD .nilIface] → (∀ b, bl p' b → w.heap.size ≤ b) → k (.slice p' 1 c') w') : F70 k (some ⟨sl, 0, none⟩) p 1 c w := by
  obtain ⟨i, g1, g2, g3, g4⟩ := inf114
  have hr1 : ((findV key kq vs).getD .nilIface).oneCell' = true ∧ ((findV key kq vs).getD .nilIface).cells = #[(findV key kq vs).getD .nilIface] := by
    cases hf : findV key kq vs with
    | none => exact ⟨rfl, rfl⟩
    | some u => exact ⟨(h1 u (List.mem_of_find?_eq_some hf)).2.1, (h1 u (List.mem_of_find?_eq_some hf)).2.2⟩
  unfold F70
  refine make_intro (P := Tryz.prog) 0 1 und110 g1 g3 g2 rfl (Nat.le_trans g4 (by decide)) (by omega) (Nat.zero_le _) fun w1 f1 o1 b1 z1 => ?_
  refine F70_L1_rule (I := fun sl' op ol oc ip il ic m j w' => sl' = some ⟨sl, 0, none⟩ ∧ ip = p ∧ il = 1 ∧ ic = c ∧ m = 1 ∧
      ((j = 0 ∧ SK key w' sl F vs ∧ Fr F w w' ∧ ol = 0 ∧ Own w' 115 op 0 oc [] ∧ (∀ b, bl op b → w.heap.size ≤ b)) ∨ (j = 1 ∧ ol = 1 ∧ ∃ F', SK key w' sl F' (delV key kq vs) ∧ Fr F w w' ∧ (∀ b, F' b → F b) ∧ Own w' 115 op 1 oc [(findV key kq vs).getD .nilIface] ∧ (∀ b, bl op b → w.heap.size ≤ b))))
    (μ := fun sl' op ol oc ip il ic m j w' => 1 - j.toNat) ?_
    ⟨rfl, rfl, rfl, rfl, rfl, .inl ⟨rfl, K.fr0 f1, f1.mono fun _ h => h.elim, rfl, o1, fun b ⟨a, h, e⟩ => by cases h; exact Nat.le_of_eq e⟩⟩
  rintro _ op ol oc _ il ic m j w2 ⟨rfl, rfl, e1, e2, rfl, ⟨rfl, K2, f2, e3, O2, hop⟩ | ⟨rfl, e3, F2, K2, f2, hF2, O2, hop⟩⟩
  · obtain rfl := e2.symm
    unfold F70_L1
    rw [e1, e3]
    rw [decide_eq_true (show (0 : Int) < 1 by decide), BIf_true]
    have hOF : ∀ b, bl _ b → ¬ F b := own_not O K.ty (by decide)
    have hI2 := O.fr f2 hOF
    obtain ⟨qq, rest, ep, hB, _, _⟩ := hI2.get (by omega)
    rw [ep, NN_mk, Req_iff, add_mk, Nat.zero_add]
    refine ⟨⟨by decide, by decide⟩, load_any (v := q) hB rfl ?_⟩
    have hz2 := f2.size
    refine F76_call (F76_spec K2 (by omega) (hC.fr f2) fun w3 F3 K3 f3 hF3 => back_any ?_)
    have O3 := O2.fr f3 (own_not O2 K2.ty (by decide))
    refine append1 (P := Tryz.prog) und110 g1 g3 g2 rfl g4 O3 hr1.1 hr1.2 (by omega) fun p' c' w4 f4 o4 hp4 hz4 => ?_
    rw [addI_i64 (by decide) (by decide)]
    have hz3 := f3.size
    refine ⟨⟨rfl, rfl, rfl, rfl, rfl, .inr ⟨rfl, rfl, F3, K3.fr_ty f4 (own_ty O3) (by decide), (f2.trans f3 fun b hb => .inl hb).trans f4 fun b hb => .inr (hop b hb), hF3, o4, fun b hb => ?_⟩⟩, by decide⟩
    rcases hp4 b hb with h | h
    · exact hop b h
    · omega
  · unfold F70_L1
    rw [decide_eq_false (show ¬ (1 : Int) < 1 by decide), BIf_false, e3]
    exact hk w2 F2 op oc K2 f2 hF2 O2 hop
theorem SKI.fr {it : Nat} {b : Bool} {rest : List Value} (K : SKI key w sl F vs it b rest) {S : Nat → Prop} {w' : World} (f : Fr S w w') (h : ∀ b, F b → ¬ S b) (hit : ¬ S it) : SKI key w' sl F vs it b rest := by
  obtain ⟨ns, g, M, L, h', cb, pb, d, c, cur, A, s, e1, e2, e3, e4, hB⟩ := K
  have h1 : ∀ b, Sf sl cb pb (h' :: ns) g b → ¬ S b := by rw [← e2]; exact h
  exact ⟨ns, g, M, L, h', cb, pb, d, c, cur, A, s.fr f (h1 _ (.inl rfl)) (h1 _ (.inr (.inl rfl))) (h1 _ (.inr (.inr (.inl rfl)))) fun x hx => ⟨h1 _ (.inr (.inr (.inr ⟨x, hx, .inl rfl⟩))), h1 _ (.inr (.inr (.inr ⟨x, hx, .inr (.inl rfl)⟩))), h1 _ (.inr (.inr (.inr ⟨x, hx, .inr (.inr rfl)⟩)))⟩, e1, e2, e3, e4, hB.fr f hit⟩
theorem SKI.key_congr {key' : Value → Int} {it : Nat} {b : Bool} {rest : List Value} (K : SKI key w sl F vs it b rest) (h : ∀ v ∈ vs, key v = key' v) : SKI key' w sl F vs it b rest := by
  obtain ⟨ns, g, M, L, h', cb, pb, d, c, cur, A, s, rfl, rfl, e3, e4, hB⟩ := K
  refine ⟨ns, g, M, L, h', cb, pb, d, c, cur, A, { s with so := ?_ }, rfl, rfl, e3, e4, hB⟩
  have hh : ∀ x ∈ ns, key (g.en x) = key' (g.en x) := fun x hx => h _ (List.mem_map_of_mem hx)
  exact List.Pairwise.imp_of_mem (fun {a b} ha hb hab => by
    have : key (g.en a) < key (g.en b) := hab
    show key' (g.en a) < key' (g.en b)
    rw [← hh a ha, ← hh b hb]; exact this) s.so
theorem SKI.blk {it : Nat} {b : Bool} {rest : List Value} (K : SKI key w sl F vs it b rest) : ∃ us, Blk w it 169 us := by
  obtain ⟨ns, g, M, L, h', cb, pb, d, c, cur, A, s, e1, e2, e3, e4, hB⟩ := K
  exact ⟨_, hB⟩
end
section
variable {w : World} {base tb num dm B : Nat} {dr : Int} {D : List Nat} {s : RSt} {sl : Nat → Nat} {F : Nat → Nat → Prop} {x : Nat} {lev : Nat → Nat}
/-- What is left of a sorted list without a key. -/
theorem del_bnd {s : RSt} {v : Int} : ∀ {l : List Nat}, (l.map fun c => (s c).v).Pairwise (· < ·) → ∀ c, l[lbd v (l.map fun c => (s c).v)]? = some c → (s c).v = v →
    delV (keyB s) v (l.map (bnd s)) = (l.take (lbd v (l.map fun c => (s c).v)) ++ l.drop (lbd v (l.map fun c => (s c).v) + 1)).map (bnd s)
  | [], _, c, h, _ => by simp at h
  | a :: l, h, c, hc, hv => by
    have h : (((s a).v) :: l.map fun c => (s c).v).Pairwise (· < ·) := h
    obtain ⟨h1, h2⟩ := List.pairwise_cons.1 h
    have gt : ∀ c ∈ l, (s a).v < (s c).v := fun c hc => h1 _ (List.mem_map.2 ⟨c, hc, rfl⟩)
    unfold delV
    by_cases ha : (s a).v < v
    · have e1 : lbd v ((a :: l).map fun c => (s c).v) = lbd v (l.map fun c => (s c).v) + 1 := by show (if (s a).v < v then _ else _) = _; rw [if_pos ha]
      have e3 : loV (keyB s) v ((a :: l).map (bnd s)) = bnd s a :: loV (keyB s) v (l.map (bnd s)) := by
        unfold loV; rw [List.map_cons, List.filter_cons_of_pos]; rw [keyB_bnd]; simpa using ha
      have e4 : gtV (keyB s) v ((a :: l).map (bnd s)) = gtV (keyB s) v (l.map (bnd s)) := by
        unfold gtV; rw [List.map_cons, List.filter_cons_of_neg]; rw [keyB_bnd]; simp; omega
      rw [e1] at hc ⊢
      have ih := del_bnd (v := v) h2 c (by simpa using hc) hv
      unfold delV at ih
      rw [e3, e4, List.cons_append, ih]; rfl
    · have e1 : lbd v ((a :: l).map fun c => (s c).v) = 0 := by show (if (s a).v < v then _ else _) = _; rw [if_neg ha]
      rw [e1] at hc ⊢
      have hac : a = c := by simpa using hc
      subst hac
      have e3 : loV (keyB s) v ((a :: l).map (bnd s)) = [] := List.filter_eq_nil_iff.2 fun x hx => by
        obtain ⟨c, hc, rfl⟩ := List.mem_map.1 hx
        rw [keyB_bnd]
        rcases List.mem_cons.1 hc with rfl | hc
        · simpa using ha
        · have := gt c hc; simp; omega
      have e4 : gtV (keyB s) v ((a :: l).map (bnd s)) = l.map (bnd s) := by
        unfold gtV
        rw [List.map_cons, List.filter_cons_of_neg (by rw [keyB_bnd]; simp; omega)]
        refine List.filter_eq_self.2 fun x hx => ?_
        obtain ⟨c, hc, rfl⟩ := List.mem_map.1 hx
        rw [keyB_bnd]
        have := gt c hc; simp; omega
      rw [e3, e4]; rfl
/-- Delete of a number, or of a bundle, in a node's list, where it is. -/
theorem del_key {k : Value → W} {v : Int} {q : Value} {c : Nat} {g : Fn W (RTy.leaves (.s (.one .slice)))} (h : SM w base tb num dm dr D s sl F) (hx : x = tb ∨ x ∈ D) (hxe : (s x).e = none) (hs : (keysR s x).Pairwise (· < ·)) (hl : (s x).kids.length < 100000)
    (hq : QAt w q v) (hq1 : One1 q) (hc : (s x).kids[lbd v (keysR s x)]? = some c) (hv : (s c).v = v)
    (hk : ∀ w' F' p' c', SM w' base tb num dm dr D (upR s x { s x with p := (s x).p, c := (s x).c, kids := cutK s x (lbd v (keysR s x)) }) sl F' → FX base tsS w w' → Own w' 115 p' 1 c' [bnd s c] → g p' 1 c' w') :
    RawT Tryz.prog (Instr.buildSlice 140 1 [(0, q)].toArray) (.s (.one .slice)) (fun s14p s14l s14c => CallT Tryz.prog 70 [.pointer (some ⟨sl x, 0, none⟩), .slice s14p s14l s14c] (.s (.one .slice)) g) w := by
  refine bld109 hq1 fun w1 p1 O1 hp1 f1 => ?_
  have h1 := h.fr0 f1
  have hq' : QAt w1 q v := hq.fr (ts := []) f1 (Tys.none w) (by decide) (by decide)
  have hfind : findV (keyB s) v ((s x).kids.map (bnd s)) = some (bnd s c) := by
    rcases find_bnd (v := v) hs with ⟨o, a1, a2, a3⟩ | ⟨a1, _, _, _⟩
    · have : c = o := by
        have a1 : (s x).kids[lbd v (keysR s x)]? = some o := a1
        rw [hc] at a1; injection a1
      rw [this]; exact a3
    · exact absurd hv (a1 c hc)
  refine F70_call (F70_one (h1.sk x hx hxe) (by rw [List.length_map]; omega) (h1.cmp hx hxe hq') (SM.one s _) O1 fun w2 F2 p2 c2 K2 f2 hF2 O2 hp2 => back_slice ?_)
  rw [hfind] at O2
  rw [del_bnd hs c hc hv] at K2
  exact hk w2 _ p2 c2 (h1.kids hx hxe K2 f2 (fun b hb => .inl (hF2 b hb)) fun d hd => by
    rcases List.mem_append.1 hd with hd | hd
    · exact h.kd x hx d (List.mem_of_mem_take hd)
    · exact h.kd x hx d (List.mem_of_mem_drop hd)) ((FX.of0 f1).trans (h1.fx hx hxe f2)) O2
/-- The same where it is not. -/
theorem del_not {k : Value → W} {v : Int} {g : Fn W (RTy.leaves (.s (.one .slice)))} (h : SM w base tb num dm dr D s sl F) (hx : x = tb ∨ x ∈ D) (hxe : (s x).e = none) (hs : (keysR s x).Pairwise (· < ·)) (hl : (s x).kids.length < 100000)
    (hno : ∀ c, (s x).kids[lbd v (keysR s x)]? = some c → (s c).v ≠ v)
    (hk : ∀ w' F' p' c', SM w' base tb num dm dr D s sl F' → FX base tsS w w' → Own w' 115 p' 1 c' [.nilIface] → g p' 1 c' w') :
    RawT Tryz.prog (Instr.buildSlice 140 1 [(0, .iface 143 (.int .u64 v))].toArray) (.s (.one .slice)) (fun s14p s14l s14c => CallT Tryz.prog 70 [.pointer (some ⟨sl x, 0, none⟩), .slice s14p s14l s14c] (.s (.one .slice)) g) w := by
  refine bld109 (v := bKey v) ⟨rfl, rfl, rfl⟩ fun w1 p1 O1 hp1 f1 => ?_
  have h1 := h.fr0 f1
  rcases find_bnd (v := v) hs with ⟨o, a1, a2, a3⟩ | ⟨_, a2, a3, a4⟩
  · exact absurd a2 (hno o a1)
  refine F70_call (F70_one (h1.sk x hx hxe) (by rw [List.length_map]; omega) (h1.cmp hx hxe (.inl rfl)) (SM.one s _) O1 fun w2 F2 p2 c2 K2 f2 hF2 O2 hp2 => back_slice ?_)
  have ed : delV (keyB s) v ((s x).kids.map (bnd s)) = (s x).kids.map (bnd s) := by
    unfold delV
    rw [a3, a4, ← List.map_append, List.take_append_drop]
  rw [ed] at K2
  rw [a2] at O2
  have := h1.kids (p' := (s x).p) (c' := (s x).c) (kids' := (s x).kids) hx hxe K2 f2 (fun b hb => .inl (hF2 b hb)) (h.kd x hx)
  have e1 : upR s x { s x with p := (s x).p, c := (s x).c, kids := (s x).kids } = s := by
    funext b; unfold upR; split
    · rename_i e; rw [e]
    · rfl
  rw [e1] at this
  exact hk w2 _ p2 c2 this ((FX.of0 f1).trans (h1.fx hx hxe f2)) O2
end
end Go.Proofs.YtfokodpnoiilbaaGreat.E

namespace Go.Proofs.YtfokodpnoiilbaaGreat.E
open Go
set_option linter.unusedSimpArgs false
set_option linter.unusedVariables false
set_option maxRecDepth 100000
set_option maxHeartbeats 8000000

theorem ta137 (c : Nat) (w : World) : (Instr.typeAssert (bDim c) 115 137 true).run Tryz.prog w = .ok (.tuple #[.pointer (some ⟨c, 0, none⟩), .bool true]) w := by kernel_rfl
theorem ta137n (w : World) : (Instr.typeAssert .nilIface 115 137 true).run Tryz.prog w = .ok (.tuple #[.pointer none, .bool false]) w := by kernel_rfl
theorem ta_dim {c : Nat} {f : Option Addr → Bool → W} {w : World} (hk : f (some ⟨c, 0, none⟩) true w) : RawS Tryz.prog (Instr.typeAssert (bDim c) 115 137 true) (.tup [(.one .ptr), (.one .bool)]) f w := ⟨(some ⟨c, 0, none⟩, true, ()), ta137 c w, hk⟩
theorem ta_dimn {f : Option Addr → Bool → W} {w : World} (hk : f none false w) : RawS Tryz.prog (Instr.typeAssert .nilIface 115 137 true) (.tup [(.one .ptr), (.one .bool)]) f w := ⟨(none, false, ()), ta137n w, hk⟩
section
variable {base tb dm B : Nat} {dr : Int} {D : List Nat} {sl : Nat → Nat} {lev : Nat → Nat}
/-- deleteRecursive. -/
theorem F67_spec {e : Dtn} (hpos : PosE e) (hdm : dm < 900) (hB : B < 90000) : ∀ (m : Nat) {w : World} {k : Value → W} {num x : Nat} {s : RSt} {F : Nat → Nat → Prop}, SM w base tb num dm dr D s sl F → LV tb dm D s lev → RIn tb B (m + 1) x D s → lev x = m + 1 → (s x).e = none → m + 1 ≤ dm → DtOk w e → num < 1000000000 →
    ((getON (m + 1) (absN (m + 1) s x) (kyD e (m + 1) (dm - m))).isSome = true → 1 ≤ num) →
    (getON (m + 1) (absN (m + 1) s x) (kyD e (m + 1) (dm - m)) = none → ∀ w' F', SM w' base tb num dm dr D s sl F' → FX base tsS w w' → k .nilIface w') →
    (∀ o, getON (m + 1) (absN (m + 1) s x) (kyD e (m + 1) (dm - m)) = some (some o) → ∀ w' s' F', DPost tb m (dm - m) e x D s s' → SM w' base tb (num - 1) dm dr D s' sl F' → LV tb dm D s' lev → FX base tsS w w' → k o.vs w') →
    F67 k (some ⟨tb, 0, none⟩) (some ⟨sl x, 0, none⟩) ((dm - (m + 1) : Nat) : Int) e.vs w
  | m, w, k, num, x, s, F, h, hL, hi, hlx, hxe, hm, he, hnum, hn, hk1, hk2 => by
    unfold F67
    refine val2_intro he (by omega) fun w1 f1 => ?_
    rw [show dm - (m + 1) + 1 = dm - m by omega]
    obtain ⟨hv0, hv1⟩ := hpos (dm - m)
    rw [wrap_u64 hv0 (by omega)]
    have h1 := h.fr0 f1
    have hkl : (s x).kids.length < 100000 := by have := hi.b2 x List.mem_cons_self; omega
    have hsr := sr_keys hi.sr
    have hsv : (lvl m s (s x).kids).Pairwise (fun p q => p.1 < q.1) := hi.sr.1
    simp only [NN_mk, add_mk, Nat.zero_add]
    refine load_int (i := 1) h1.top rfl ?_
    match m, hi, hlx, hm, hn, hk1, hk2, hsr, hsv with
    | 0, hi, hlx, hm, hn, hk1, hk2, hsr, hsv =>
      refine F64_call (F64_yes (by omega) (by omega) (back_bool ?_))
      rw [BIf_true]
      rcases find_bnd (v := plI e.pos (dm - 0)) hsr with ⟨c, a1, a2, a3⟩ | ⟨a1, a2, _, _⟩
      · have a1 : (s x).kids[lbd (plI e.pos (dm - 0)) (keysR s x)]? = some c := a1
        have hcm : c ∈ (s x).kids := List.mem_of_getElem? a1
        have hcD := h.kd x hi.hx c hcm
        have hg : getON (0 + 1) (absN (0 + 1) s x) (kyD e (0 + 1) (dm - 0)) = some (s c).e := get_found hsv a1 a2
        have hce : (s c).e.isSome = true := (hL.l c hcD).2 (by have := hL.k x hi.hx c hcm; omega)
        obtain ⟨x0, hx0⟩ := Option.isSome_iff_exists.1 hce
        have hn1 := hn (by rw [hg]; rfl)
        refine del_key (k := k) (q := bKey (plI e.pos (dm - 0))) h1 hi.hx hxe hsr hkl (.inl rfl) ⟨rfl, rfl, rfl⟩ a1 a2 fun w2 F2 p2 c2 h2 f2 O2 => ?_
        refine one_get (k := k) O2 ?_
        rw [show bnd s c = bLast c from if_pos hce, nil_last, BIf_false]
        have f02 : FX base tsS w w2 := (FX.of0 f1).trans f2
        refine load_int (i := 2) h2.top rfl ?_
        rw [subI_u64 (by omega) (by omega)]
        refine store_intro (i := 2) h2.top (by simp) rfl fun w3 b3 f3 z3 => ?_
        have b3 : Blk w3 tb 60 [.pointer (some ⟨sl tb, 0, none⟩), .int .u64 ((dm : Nat) : Int), .int .u64 ((num - 1 : Nat) : Int), .int .u64 dr] := by
          have e1 : ((num : Nat) : Int) - 1 = ((num - 1 : Nat) : Int) := by omega
          rw [e1] at b3; exact b3
        have T3 : Tys (fun b => b = tb) w2 [60] := Tys.one h2.top
        have h3 := h2.numT f3 b3
        have O3 := O2.fr f3 fun b hb e => by
          obtain ⟨us, hu⟩ := O2.blk hb
          have := T3 b _ _ e hu; simp at this
        refine one_get (k := k) O3 ?_
        rw [show bnd s c = bLast c from if_pos hce]
        refine TAs_ptr ?_
        simp only [NN_mk, add_mk, Nat.zero_add]
        have hB := h3.nodes c hcD
        have hcx : c ≠ x := fun e => (List.nodup_cons.1 hi.nd).1 (List.mem_flatMap.2 ⟨c, hcm, e ▸ List.mem_cons_self⟩)
        rw [upR_ne hcx] at hB
        have hB : Blk w3 c 146 [.int .u64 (s c).v, x0.vs] := by
          unfold ndT ndC at hB
          rw [if_pos hce, hx0] at hB; exact hB
        refine load_any (i := 1) hB rfl ?_
        refine hk2 x0 (by rw [hg, hx0]) w3 _ F2 (DPost.base hi.nd hi.sr a1 a2) h3 (hL.kids fun d hd => ?_) (f02.trans ⟨_, f3, fun b u us hb hu => by have := T3 b u us hb hu; simp at this; rw [this]; decide, fun b hb => by have hb : b = tb := hb; rw [hb]; exact (h.lo tb (.inl rfl)).1⟩)
        rcases List.mem_append.1 hd with hd | hd
        · exact hL.k x hi.hx d (List.mem_of_mem_take hd)
        · exact hL.k x hi.hx d (List.mem_of_mem_drop hd)
      · refine del_not (k := k) h1 hi.hx hxe hsr hkl a1 fun w2 F2 p2 c2 h2 f2 O2 => ?_
        refine one_get (k := k) O2 ?_
        rw [IfaceNil_nil, BIf_true]
        exact hk1 (get_not hsv a1) w2 F2 h2 ((FX.of0 f1).trans f2)
    | m + 1, hi, hlx, hm, hn, hk1, hk2, hsr, hsv =>
      refine F64_call (F64_no (by omega) (by omega) (back_bool ?_))
      rw [BIf_false]
      refine get_key (k := k) h1 hi.hx hxe hsr hkl fun w2 p2 c2 h2 f2 O2 => ?_
      refine one_get (k := k) O2 ?_
      have f02 : FX base tsS w w2 := (FX.of0 f1).trans f2
      have he2 := FX.dt he f02 (by decide)
      rcases find_bnd (v := plI e.pos (dm - (m + 1))) hsr with ⟨c, a1, a2, a3⟩ | ⟨a1, a2, _, _⟩
      · rw [a3]
        have a1 : (s x).kids[lbd (plI e.pos (dm - (m + 1))) (keysR s x)]? = some c := a1
        have hcm : c ∈ (s x).kids := List.mem_of_getElem? a1
        have hcD := h.kd x hi.hx c hcm
        have hg : getON (m + 1 + 1) (absN (m + 1 + 1) s x) (kyD e (m + 1 + 1) (dm - (m + 1))) = getON (m + 1) (absN (m + 1) s c) (kyD e (m + 1) (dm - m)) := by
          have := get_found (vs := kyD e (m + 1) (dm - (m + 1) + 1)) hsv a1 a2
          rw [show dm - (m + 1) + 1 = dm - m by omega] at this
          show getON (m + 1 + 1) (absN (m + 1 + 1) s x) (plI e.pos (dm - (m + 1)) :: kyD e (m + 1) (dm - (m + 1) + 1)) = _
          rw [show dm - (m + 1) + 1 = dm - m by omega]
          exact this
        have hcl : lev c = m + 1 := by have := hL.k x hi.hx c hcm; omega
        have hce : (s c).e = none := by
          cases hq : (s c).e with
          | none => rfl
          | some y =>
            have := (hL.l c hcD).1 (by rw [hq]; rfl)
            omega
        rw [show (some (bnd s c)).getD Value.nilIface = bDim c from if_neg (by rw [hce]; simp)]
        refine ta_dim ?_
        rw [show (!true) = false from rfl, BIf_false]
        simp only [NN_mk, add_mk, Nat.zero_add]
        have hBn : ∀ {w' : World} {s' : RSt} {F' : Nat → Nat → Prop} {n' : Nat}, SM w' base tb n' dm dr D s' sl F' → (s' c).e = none → Blk w' c 148 [.int .u64 (s' c).v, .pointer (some ⟨sl c, 0, none⟩)] := fun h' he' => by
          have hB := h'.nodes c hcD
          unfold ndT ndC at hB
          rw [he'] at hB; exact hB
        refine load_ptr (i := 1) (hBn h2 hce) rfl ?_
        have hadd : addI .u64 ((dm - (m + 1 + 1) : Nat) : Int) 1 = ((dm - (m + 1) : Nat) : Int) := by rw [addI_u64 (by omega) (by omega)]; omega
        rw [hadd]
        refine F67_call (F67_spec hpos hdm hB m h2 hL (RIn.found h.kd hi hcm) hcl hce (by omega) he2 hnum (fun hs => hn (by rw [hg]; exact hs)) (fun hnone w3 F3 h3 f3 => back_any ?_) fun o ho w3 s3 F3 hp h3 hL3 f3 => back_any ?_)
        · rw [IfaceNil_nil, BIf_true]
          exact hk1 (by rw [hg]; exact hnone) w3 F3 h3 (f02.trans f3)
        · rw [show ∀ f : Bool → W, IfaceNil o.vs f = f false from fun _ => rfl, BIf_false]
          have hp' : DPost tb m (dm - (m + 1) + 1) e c D s s3 := by rw [show dm - (m + 1) + 1 = dm - m by omega]; exact hp
          have hce3 : (s3 c).e = none := by rw [hp.en]; exact hce
          refine load_ptr (i := 1) (hBn h3 hce3) rfl ?_
          have K3 := h3.sk c (.inr hcD) hce3
          refine F75_call (F75_sk K3 (back_int ?_))
          rw [List.length_map]
          have f03 : FX base tsS w w3 := f02.trans f3
          by_cases h0 : (s3 c).kids = []
          · rw [h0, show (((([] : List Nat).length : Nat) : Int) == 0) = true from rfl, BIf_true]
            have hx3 := hp'.at h.kd hi.hx hi.nd hcm
            have hk3 := hp'.keys h.kd hi.hx hi.nd hcm
            have hq : QAt w3 (bDim c) (plI e.pos (dm - (m + 1))) := .inr (.inl ⟨c, _, rfl, by rw [← a2, ← hp.v c]; exact hBn h3 hce3⟩)
            refine del_key (k := k) (q := bDim c) (c := c) h3 hi.hx (by rw [hx3]; exact hxe) (by rw [hk3]; exact hsr) (by rw [hx3]; exact hkl) hq ⟨rfl, rfl, rfl⟩ (by rw [hk3, hx3]; exact a1) (by rw [hp.v]; exact a2) fun w4 F4 p4 c4 h4 f4 O4 => ?_
            refine hk2 o (by rw [hg]; exact ho) w4 _ F4 ?_ h4 (hL3.kids fun d hd => ?_) (f03.trans f4)
            · rw [hk3]
              exact DPost.cut h.kd hi.hx hi.nd hi.sr a1 a2 hp' h0
            · have hd : d ∈ (s3 x).kids := by
                rcases List.mem_append.1 hd with hd | hd
                · exact List.mem_of_mem_take hd
                · exact List.mem_of_mem_drop hd
              exact hL3.k x hi.hx d hd
          · have hlen : (s3 c).kids.length ≠ 0 := fun h => h0 (List.length_eq_zero_iff.1 h)
            rw [show ((((s3 c).kids.length : Nat) : Int) == 0) = false by rw [beq_eq_false_iff_ne]; omega, BIf_false]
            exact hk2 o (by rw [hg]; exact ho) w3 s3 F3 (DPost.up h.kd hi.hx hi.nd hi.sr a1 a2 hp' h0) h3 hL3 f03
      · rw [a2, show (none : Option Value).getD Value.nilIface = Value.nilIface from rfl]
        refine ta_dimn ?_
        rw [show (!false) = true from rfl, BIf_true]
        exact hk1 (get_not hsv a1) w2 F h2 f02
end
end Go.Proofs.YtfokodpnoiilbaaGreat.E

namespace Go.Proofs.YtfokodpnoiilbaaGreat.E
open Go
set_option linter.unusedSimpArgs false
set_option linter.unusedVariables false
set_option maxRecDepth 100000
set_option maxHeartbeats 8000000

theorem rch_mono {dm tb B : Nat} {D : List Nat} {s s' : RSt} (h : RIn tb B dm tb D s) (nd : (tb :: rch dm s' tb).Nodup) (sr : SrtN dm (absN dm s' tb)) (rc : ∀ y ∈ rch dm s' tb, y ∈ rch dm s tb) (kl : ∀ b, (s' b).kids.length ≤ (s b).kids.length) : RIn tb B dm tb D s' :=
  ⟨.inl rfl, nd, sr, fun b hb => Nat.le_trans (kl b) (h.b1 b hb), fun b hb => Nat.le_trans (kl b) (h.b2 b (by
    rcases List.mem_cons.1 hb with rfl | hb
    · exact List.mem_cons_self
    · exact List.mem_cons_of_mem _ (rc b hb)))⟩
section
variable {w : World} {k : Value → W} {base tb dm B : Nat} {L : ON (Option Dtn) dm}
theorem del1S {e : Dtn} (h : TrS w base tb dm B L) (he : DtOk w e) (hpos : PosE e) (hd1 : 1 ≤ dm) (hdm : dm < 900) (hB : B < 90000)
    (hk : ∀ w', TrS w' base tb dm B (delE dm L e) → (∀ x, oldE dm L e = some x → DtOk w' x) → FX base tsS w w' → k (rdS (oldE dm L e)) w') : F59 k (some ⟨tb, 0, none⟩) e.vs w := by
  obtain ⟨D, s, sl, F, lev, dr, h1, h2, h3, h4, h5⟩ := h
  have hsz := szN_delE dm L e hd1
  have hth : ∀ o, getON dm L (kyD e dm 1) = some o → ∃ b ∈ D, (s b).e = o := fun o ho => h1.there hd1 (by rw [h4]; exact ho)
  unfold F59
  rw [NN_mk]
  refine load_ptr (i := 0) h1.top rfl ?_
  obtain ⟨m, rfl⟩ : ∃ m, dm = m + 1 := ⟨dm - 1, by omega⟩
  have e0 : ((m + 1 - (m + 1) : Nat) : Int) = 0 := by omega
  have e1 : m + 1 - m = 1 := by omega
  have sp := F67_spec (k := fun v => Back (.s (.one .any)) (fun v5 => k v5) (.returned v)) (e := e) hpos hdm hB m h1 h2 h3 (h2.t) h1.te (Nat.le_refl _) he (by omega)
  rw [e0, e1, h4] at sp
  refine F67_call (sp (fun hs => ?_) (fun hnone w' F' h' f' => back_any ?_) fun o ho w' s' F' hp h' hl' f' => back_any ?_)
  · cases hq : getON (m + 1) L (kyD e (m + 1) 1) with
    | none => rw [hq] at hs; cases hs
    | some y => rw [hq] at hsz; simp at hsz; omega
  · have eo : oldE (m + 1) L e = none := by unfold oldE; rw [hnone]; rfl
    have ed : delE (m + 1) L e = L := by unfold delE; rw [hnone]; rfl
    have := hk w' (by rw [ed]; exact ⟨D, s, sl, F', lev, dr, h', h2, h3, h4, h5⟩) (fun x hx => by rw [eo] at hx; cases hx) f'
    rw [eo] at this; exact this
  · have eo : oldE (m + 1) L e = some o := by unfold oldE; rw [ho]; rfl
    have ed : delE (m + 1) L e = delT (m + 1) L (kyD e (m + 1) 1) := by unfold delE; rw [ho]; rfl
    rw [ho] at hsz
    have hsz : szN (m + 1) (delE (m + 1) L e) + 1 = szN (m + 1) L := hsz
    have hA : absN (m + 1) s' tb = delE (m + 1) L e := by rw [hp.ab, h4, ed]
    obtain ⟨b, hb, hbe⟩ := hth _ ho
    have := hk w' ⟨D, s', sl, F', lev, dr, by rw [show szN (m + 1) (delE (m + 1) L e) = szN (m + 1) L - 1 by omega]; exact h', hl', rch_mono h3 hp.nd (by rw [hA, ed]; exact srt_delT _ _ _ (h4 ▸ h3.sr)) hp.rc hp.kl, hA, by omega⟩ (fun x hx => by
      rw [eo] at hx; cases hx
      exact FX.dt (h1.ok b hb o hbe) f' (by decide)) f'
    rw [eo] at this; exact this
/-- Delete. -/
theorem F52_spec {ys : List Dtn} {p : Option Addr} {c : Nat} (h : TrS w base tb dm B L) (O : Own w 76 p ys.length c (ys.map Dtn.vs)) (ok : ∀ y ∈ ys, DtOk w y) (hpos : ∀ y ∈ ys, PosE y) (hd1 : 1 ≤ dm) (hdm : dm < 900) (hB : B < 90000) (hl : ys.length < 90000)
    (hk : ∀ w' p' c', TrS w' base tb dm B (delsE dm L ys) → Own w' 76 p' ys.length c' ((goneE dm L ys).map rdS) → (∀ o ∈ goneE dm L ys, ∀ x, o = some x → DtOk w' x) → FX base tsS w w' → k (.slice p' ys.length c') w') :
    F52 k (some ⟨tb, 0, none⟩) p ys.length c w := by
  unfold F52
  obtain ⟨ie, g1, g2, g3, g4⟩ := inf153
  refine make_intro ys.length ys.length und144 g1 g2 g3 rfl (by omega) (by omega) (Nat.le_refl _) fun w1 f1 o1 b1 z1 => ?_
  have hq := z1
  generalize hqq : w.heap.size = q at o1 b1
  refine F52_L1_rule (I := fun ot op ol oc sp sl sc n i w' => ot = some ⟨tb, 0, none⟩ ∧ op = some ⟨q, 0, none⟩ ∧ ol = ys.length ∧ oc = ys.length ∧ sp = p ∧ sl = ys.length ∧ sc = c ∧ n = ((ys.length : Nat) : Int) ∧ ∃ t : Nat, i = ((t : Nat) : Int) ∧ t ≤ ys.length ∧ TrS w' base tb dm B (delsE dm L (ys.take t)) ∧ Own w' 76 (some ⟨q, 0, none⟩) ys.length ys.length ((goneE dm L (ys.take t)).map rdS ++ List.replicate (ys.length - t) .nilIface) ∧ (∀ o ∈ goneE dm L (ys.take t), ∀ x, o = some x → DtOk w' x) ∧ Own w' 76 p ys.length c (ys.map Dtn.vs) ∧ (∀ y ∈ ys, DtOk w' y) ∧ FX base tsS w w')
    (μ := fun ot op ol oc sp sl sc n i w' => ys.length - i.toNat) ?_ ⟨rfl, rfl, rfl, rfl, rfl, rfl, rfl, rfl, 0, rfl, Nat.zero_le _, h.fr0 f1, o1, (fun o ho => by cases ho), O.fr f1 fun _ _ => id, fun y hy => (ok y hy).fr0 f1, .of0 f1⟩
  rintro ot op ol oc sp sl sc n i w2 ⟨e1, e2, e3, e4, e5, e6, e7, rfl, t, rfl, ht, h2, o2, ok2, O2, oky, f2⟩
  obtain rfl := e7.symm
  obtain rfl := e5.symm
  unfold F52_L1
  rw [e1, e2, e3, e4, e6]
  by_cases hlt : t < ys.length
  · rw [decide_eq_true (show ((t : Nat) : Int) < ((ys.length : Nat) : Int) by omega), BIf_true]
    have hy : ys[t]? = some ys[t] := List.getElem?_eq_getElem hlt
    have hmem : ys[t] ∈ ys := List.getElem_mem hlt
    generalize ys[t] = y at hy hmem
    obtain ⟨q2, rest2, hp, hB2, _, _⟩ := O2.get (by omega)
    have hsn : ys.take (t + 1) = ys.take t ++ [y] := take_snoc hy
    have eA : delsE dm L (ys.take (t + 1)) = delE dm (delsE dm L (ys.take t)) y := by rw [hsn, delsE_snoc]
    have eO : goneE dm L (ys.take (t + 1)) = goneE dm L (ys.take t) ++ [oldE dm (delsE dm L (ys.take t)) y] := by rw [hsn, goneE_snoc]
    generalize delsE dm L (ys.take t) = Lt at h2 eA eO
    have hlen : (goneE dm L (ys.take t)).length = t := by rw [goneE_length, List.length_take]; omega
    generalize goneE dm L (ys.take t) = os at o2 ok2 eO hlen
    rw [hp, NN_mk, Req_iff, Int.toNat_natCast, add_mk, Nat.zero_add]
    refine ⟨by omega, load_any (v := y.vs) hB2 (by rw [List.getElem?_append_left (by simpa using hlt), List.getElem?_map, hy]; rfl) ?_⟩
    have hrep : List.replicate (ys.length - t) Value.nilIface = Value.nilIface :: List.replicate (ys.length - (t + 1)) Value.nilIface := by
      rw [show ys.length - t = (ys.length - (t + 1)) + 1 by omega, List.replicate_succ]
    have hqlt : w.heap.size ≤ q := by omega
    have hmu : ys.length - (((t : Nat) : Int) + 1).toNat < ys.length - ((t : Nat) : Int).toNat := by omega
    refine F59_call (del1S h2 (oky y hmem) (hpos y hmem) hd1 hdm (by omega) fun w3 h3 hx3 f3 => back_any ?_)
    have o3 := f3.own o2 (by decide)
    have O3 := f3.own O2 (by decide)
    have oky3 : ∀ y ∈ ys, DtOk w3 y := fun y hy => f3.dt (oky y hy) (by decide)
    have ok3 : ∀ o ∈ os, ∀ x, o = some x → DtOk w3 x := fun o ho x hx => f3.dt (ok2 o ho x hx) (by decide)
    rw [addI_i64 (by omega) (by omega), show ((t : Nat) : Int) + 1 = ((t + 1 : Nat) : Int) by omega]
    generalize hoo : oldE dm Lt y = o at hx3 eO
    obtain ⟨rest, hBq, hqc, hqm⟩ := o3.full
    simp only [NN_mk, Int.toNat_natCast, add_mk, Nat.zero_add]
    refine Req_iff.2 ⟨by omega, Req_iff.2 ⟨rdS_one _, ?_⟩⟩
    have hol : (List.map rdS os).length = t := by rw [List.length_map]; exact hlen
    refine store_intro hBq (by simp; omega) (rdS_one _) fun w4 b4 f4 z4 => ?_
    have eset : (List.map rdS os ++ List.replicate (ys.length - t) Value.nilIface ++ rest).set t (rdS o) = (List.map rdS (os ++ [o]) ++ List.replicate (ys.length - (t + 1)) Value.nilIface) ++ rest := by
      rw [hrep, List.append_assoc, List.set_append_right _ _ (by omega), hol, Nat.sub_self, List.map_append]
      simp
    rw [eset] at b4
    have T4 : Tys (fun x => x = q) w3 [76] := Tys.one hBq
    have nT : ∀ b u us, b = q → Blk w3 b u us → u ≠ 2 := fun b u us hb hu e => by
      have := T4 b u us hb hu
      rw [e] at this; simp at this
    refine ⟨⟨by trivial, by trivial, by trivial, by trivial, by trivial, by trivial, by trivial, by trivial, t + 1, by trivial, hlt, by rw [eA]; exact h3.fr f4 T4 (by decide), ?_, ?_, ?_, fun y hy => (oky3 y hy).fr f4 nT, (f2.trans f3).new f4 fun b hb => by have hb : b = q := hb; omega⟩, by omega⟩
    · rw [eO]
      exact Own.mk' b4 (by simp [hlen]; omega) (by have h := hqc; simp [hlen] at h ⊢; omega) hqm
    · rw [eO]
      intro o' ho' x hx
      rcases List.mem_append.1 ho' with h | h
      · exact (ok3 o' h x hx).fr f4 nT
      · rw [List.mem_singleton] at h; rw [h] at hx
        exact (hx3 x hx).fr f4 nT
    · rw [← hp]; exact O3.fr f4 fun b hb e => by have := O.lt hb; have e : b = q := e; omega
  · rw [decide_eq_false (show ¬ ((t : Nat) : Int) < ((ys.length : Nat) : Int) by omega), BIf_false]
    have : t = ys.length := by omega
    subst this
    rw [List.take_length] at h2 o2 ok2
    rw [Nat.sub_self, List.replicate_zero, List.append_nil] at o2
    exact hk w2 _ _ h2 o2 ok2 f2
end
end Go.Proofs.YtfokodpnoiilbaaGreat.E

namespace Go.Proofs.YtfokodpnoiilbaaGreat.E
open Go
set_option linter.unusedSimpArgs false
set_option linter.unusedVariables false
set_option maxRecDepth 100000
set_option maxHeartbeats 8000000

/-- The least number of which something is true. -/
noncomputable def lst (P : Nat → Prop) : Nat := Classical.epsilon fun n => P n ∧ ∀ m, P m → n ≤ m
theorem lst_spec {P : Nat → Prop} (h : ∃ n, P n) : P (lst P) ∧ ∀ m, P m → lst P ≤ m := by
  have : ∃ n, P n ∧ ∀ m, P m → n ≤ m := by
    obtain ⟨n, hn⟩ := h
    induction n using Nat.strongRecOn with
    | _ n ih =>
      by_cases hm : ∃ m, m < n ∧ P m
      · obtain ⟨m, h1, h2⟩ := hm; exact ih m h1 h2
      · exact ⟨n, hn, fun m hm' => Nat.le_of_not_lt fun h => hm ⟨m, h, hm'⟩⟩
  exact Classical.epsilon_spec this
/-! ## The box -/
def Bx.vr (x : Bx) : Value := .iface 67 (.agg #[.slice x.p x.lo.length x.c, .slice x.q x.hi.length x.d, .int .u64 0])
theorem m_lowr (p q : Option Addr) (l c m d : Nat) (i j : Int) (w : World) : (callMethod (.iface 67 (.agg #[.slice p l c, .slice q m d, .int .u64 i])) "LowAtDimension" [.int .u64 j].toArray).run Tryz.prog w = .ok (.enter 86 #[.agg #[.slice p l c, .slice q m d, .int .u64 i], .int .u64 j]) w := by kernel_rfl
theorem m_highr (p q : Option Addr) (l c m d : Nat) (i j : Int) (w : World) : (callMethod (.iface 67 (.agg #[.slice p l c, .slice q m d, .int .u64 i])) "HighAtDimension" [.int .u64 j].toArray).run Tryz.prog w = .ok (.enter 85 #[.agg #[.slice p l c, .slice q m d, .int .u64 i], .int .u64 j]) w := by kernel_rfl
theorem low_r {w : World} {x : Bx} {i : Nat} {f : Int → W} (h : BxOk w x) (hd : i < 900) (hk : ∀ w', Fr (fun _ => False) w w' → f (plI x.lo (i + 1)) w') : NextT Tryz.prog (callMethod x.vr "LowAtDimension" [.int .u64 ((i : Nat) : Int)].toArray) (.s (.one (.int .i64))) f w := by
  refine NextT_enterR (m_lowr _ _ _ _ _ _ _ _ w) (F86_calls ?_)
  unfold F86
  refine new_intro fun n w1 e1 b1 f1 z1 => load_slice (i := 0) b1 rfl ?_
  rw [addI_u64 (by omega) (by omega), show ((i : Nat) : Int) + 1 = ((i + 1 : Nat) : Int) by omega]
  exact F84_call (F84_dt (h.fr0 f1).1 h.2.2.1 (by omega) (back_int (back_int (hk w1 f1))))
theorem high_r {w : World} {x : Bx} {i : Nat} {f : Int → W} (h : BxOk w x) (hd : i < 900) (hk : ∀ w', Fr (fun _ => False) w w' → f (plI x.hi (i + 1)) w') : NextT Tryz.prog (callMethod x.vr "HighAtDimension" [.int .u64 ((i : Nat) : Int)].toArray) (.s (.one (.int .i64))) f w := by
  refine NextT_enterR (m_highr _ _ _ _ _ _ _ _ w) (F85_calls ?_)
  unfold F85
  refine new_intro fun n w1 e1 b1 f1 z1 => load_slice (i := 1) b1 rfl ?_
  rw [addI_u64 (by omega) (by omega), show ((i : Nat) : Int) + 1 = ((i + 1 : Nat) : Int) by omega]
  exact F84_call (F84_dt (h.fr0 f1).2.1 h.2.2.2 (by omega) (back_int (back_int (hk w1 f1))))
theorem BxOk.fx {base : Nat} {ts : List TypeId} {w w' : World} {x : Bx} (h : BxOk w x) (f : FX base ts w w') (ht : 2 ∉ ts) : BxOk w' x :=
  ⟨f.sl h.1 fun u hu => ⟨fun e => ht (by have e : u = 2 := e; rw [← e]; exact hu), fun h => by cases h⟩, f.sl h.2.1 fun u hu => ⟨fun e => ht (by have e : u = 2 := e; rw [← e]; exact hu), fun h => by cases h⟩, h.2.2⟩
/-! ## What is gathered -/
def GatS (base n : Nat) (acc : List (Option Dtn)) (w : World) : Prop := ∃ p c, Blk w n 70 [.slice p acc.length c] ∧ Own w 76 p acc.length c (acc.map rdS) ∧ (∀ o ∈ acc, ∀ x, o = some x → DtOk w x) ∧ base ≤ n ∧ ∀ b, bl p b → base ≤ b
theorem GatS.fx {base base' n : Nat} {ts : List TypeId} {acc : List (Option Dtn)} {w w' : World} (h : GatS base n acc w) (f : FX base' ts w w') (ht : 70 ∉ ts ∧ 76 ∉ ts ∧ 2 ∉ ts) : GatS base n acc w' := by
  obtain ⟨p, c, h1, h2, h3, h4⟩ := h
  exact ⟨p, c, f.blk h1 ht.1, f.own h2 ht.2.1, fun o ho x hx => f.dt (h3 o ho x hx) ht.2.2, h4⟩
theorem GatS.fr0 {base n : Nat} {acc : List (Option Dtn)} {w w' : World} (h : GatS base n acc w) (f : Fr (fun _ => False) w w') : GatS base n acc w' := h.fx (ts := []) (base' := 0) (.of0 f) (by decide)
section
variable {w : World} {k : Value → W} {base tb dm B : Nat} {L : ON (Option Dtn) dm}
theorem gat_putS {n : Nat} {acc : List (Option Dtn)} {o : Option Dtn} {p' : Option Addr} {c' : Nat} {w1 w2 w3 : World} {p : Option Addr} {c : Nat} (hB : Blk w1 n 70 [.slice p acc.length c]) (O : Own w1 76 p acc.length c (acc.map rdS)) (hok : ∀ o ∈ acc, ∀ x, o = some x → DtOk w1 x) (ho : ∀ x, o = some x → DtOk w1 x)
    (f2 : Fr (fun b => bl p b) w1 w2) (o2 : Own w2 76 p' (acc.length + 1) c' (acc.map rdS ++ [rdS o])) (b3 : Blk w3 n 70 [.slice p' (acc.length + 1) c']) (hb2 : Blk w2 n 70 [.slice p acc.length c]) (f3 : Fr (fun b => b = n) w2 w3) (hp' : ∀ b, bl p' b → bl p b ∨ w1.heap.size ≤ b) (hbn : base ≤ n) (hbp : ∀ b, bl p b → base ≤ b) : GatS base n (acc ++ [o]) w3 ∧ Ft base w1 w3 := by
  have hlt := hB.lt
  have T2 : Tys (fun b => bl p b) w1 [70, 76] := fun b u us hb hu => by
    obtain ⟨us', hu'⟩ := O.blk hb
    rw [(hu.unique hu').1]; decide
  have T3 : Tys (fun b => b = n) w2 [70, 76] := fun b u us hb hu => by
    have := Tys.one hb2 b u us hb hu
    simp at this; rw [this]; decide
  have ft : Ft base w1 w3 := Ft.trans ⟨_, f2, T2, hbp⟩ ⟨_, f3, T3, fun b hb => by have hb : b = n := hb; omega⟩
  have dt : ∀ x, DtOk w1 x → DtOk w3 x := fun x hx => ⟨ft.sl hx.1, hx.2⟩
  refine ⟨⟨p', c', ?_, ?_, fun o' ho' x hx => ?_, hbn, fun b hb => by rcases hp' b hb with h | h; exact hbp b h; omega⟩, ft⟩
  · simp only [List.length_append, List.length_singleton]; exact b3
  · simp only [List.length_append, List.length_singleton, List.map_append, List.map_cons, List.map_nil]
    exact o2.fr f3 fun b hb e => by
      obtain ⟨us, hu⟩ := o2.blk hb
      have e : b = n := e
      rw [e] at hu
      have := (hu.unique hb2).1
      simp at this
  · rcases List.mem_append.1 ho' with h | h
    · exact dt x (hok o' h x hx)
    · rw [List.mem_singleton] at h; rw [h] at hx; exact dt x (ho x hx)

theorem ent62 : ∀ args w, (callFunc 62 args).run Tryz.prog w = .ok (.enter 62 args) w := enters_of Tryz.func62 (by kernel_rfl) rfl
def fnQ (n : Nat) : Value := .func (.func 62) #[] #[.pointer (some ⟨n, 0, none⟩)]
/-- Query's callback. -/
theorem cbS {n : Nat} {acc : List (Option Dtn)} {x0 : Dtn} {f : Bool → W} (hG : GatS base n acc w) (hx : DtOk w x0) (hn : acc.length < 1000000) (hk : ∀ w', GatS base n (acc ++ [some x0]) w' → Ft base w w' → f true w') : NextT Tryz.prog (callV (fnQ n) [x0.vs].toArray) (.s (.one .bool)) f w := by
  obtain ⟨p, c0, hB, O, hok, hbn, hbp⟩ := hG
  obtain ⟨ie, g1, g2, g3, g4⟩ := inf153
  refine NextT_enterR (callV_enter ent62) (F62_calls ?_)
  unfold F62
  refine load_slice (i := 0) hB rfl ?_
  refine append1 und144 g1 g2 g3 rfl g4 O (v := rdS (some x0)) (rdS_one' _) (rdS_cells _) (by omega) fun p' c' w2 f2 O2 hp2 z2 => ?_
  have T2 : Tys (fun b => bl p b) w [76] := fun b u us hb hu => by
    obtain ⟨us', hu'⟩ := O.blk hb
    rw [(hu.unique hu').1]; decide
  have hB2 := blk_ty hB f2 T2 (by decide)
  refine store_intro (i := 0) hB2 (by simp) rfl fun w3 b3 f3 z3 => ?_
  have b3 : Blk w3 n 70 [.slice p' (acc.length + 1) c'] := b3
  obtain ⟨ga, ft⟩ := gat_putS (o := some x0) hB O hok (fun x hx' => by cases hx'; exact hx) f2 O2 b3 hB2 f3 hp2 hbn hbp
  exact back_bool (hk w3 ga ft)
end

/-! ## What turns -/
theorem SK.blk {key : Value → Int} {w : World} {sl : Nat} {F : Nat → Prop} {vs : List Value} (K : SK key w sl F vs) {y : Nat} (hy : F y) : ∃ u us, Blk w y u us := by
  obtain ⟨ns, g, M, L, h', cb, pb, d, c, s', _, e⟩ := K
  rw [e] at hy
  rcases hy with rfl | rfl | rfl | ⟨z, hz, h⟩
  · exact ⟨_, _, s'.hd⟩
  · exact ⟨_, _, s'.ca⟩
  · obtain ⟨_, _, hb⟩ := s'.pw; exact ⟨_, _, hb⟩
  · rcases h with rfl | rfl | rfl
    · exact ⟨_, _, (s'.ms.n _ hz).a⟩
    · exact ⟨_, _, (s'.ms.n _ hz).f⟩
    · obtain ⟨_, _, hb⟩ := (s'.ms.n _ hz).v; exact ⟨_, _, hb⟩
def tsQ : List TypeId := [60, 146, 107, 117, 101, 29, 70, 76]
/-- Blocks of the lists of some nodes turn, and those that gather. -/
def FQ (base : Nat) (s : RSt) (F : Nat → Nat → Prop) (Y : Nat → Prop) (w w' : World) : Prop := ∃ S, Fr S w w' ∧ (∀ b, S b → base ≤ b) ∧ ∀ b, S b → (∃ y, Y y ∧ (s y).e = none ∧ F y b) ∨ ∀ u us, Blk w b u us → u ∈ [70, 76]
section
variable {w w' w1 : World} {base tb num dm B : Nat} {dr : Int} {D : List Nat} {s : RSt} {sl : Nat → Nat} {F : Nat → Nat → Prop} {x : Nat} {lev : Nat → Nat} {Y Y' : Nat → Prop}
theorem FQ.of0 (f : Fr (fun _ => False) w w') : FQ base s F Y w w' := ⟨_, f, fun _ h => h.elim, fun _ h => h.elim⟩
theorem FQ.trans : FQ base s F Y w w1 → FQ base s F Y w1 w' → FQ base s F Y w w' := fun ⟨S, f, h, g⟩ ⟨S2, f2, h2, g2⟩ => ⟨fun y => S y ∨ S2 y, (f.mono fun y hy => .inl (.inl hy)).trans f2 fun y hy => .inl (.inr hy), fun b hb => hb.elim (h b) (h2 b), fun b hb => by
  by_cases hS : S b
  · exact g b hS
  · rcases hb with hb | hb
    · exact absurd hb hS
    · rcases g2 b hb with h' | h'
      · exact .inl h'
      · exact .inr fun u us hB => h' u us (hB.fr f hS)⟩
theorem FQ.mono (h : ∀ y, Y y → Y' y) : FQ base s F Y w w' → FQ base s F Y' w w' := fun ⟨S, f, h1, g⟩ => ⟨S, f, h1, fun b hb => (g b hb).imp (fun ⟨y, a, b⟩ => ⟨y, h y a, b⟩) id⟩
theorem FQ.ft (f : Ft base w w') : FQ base s F Y w w' := by
  obtain ⟨S, f, h, g⟩ := f
  exact ⟨S, f, g, fun b hb => .inr fun u us hB => h b u us hb hB⟩
theorem FQ.f (h : SM w base tb num dm dr D s sl F) (hx : x = tb ∨ x ∈ D) (hxe : (s x).e = none) (hY : Y x) (f : Fr (F x) w w') : FQ base s F Y w w' := ⟨F x, f, (h.lo x hx).2 hxe, fun b hb => .inl ⟨x, hY, hxe, hb⟩⟩
theorem FQ.new {S : Nat → Prop} : FQ base s F Y w w1 → Fr S w1 w' → (∀ b, S b → w.heap.size ≤ b) → FQ base s F Y w w' := fun ⟨S0, f, h, g⟩ f2 hS => ⟨S0, f.trans f2 fun y hy => .inr (hS y hy), h, g⟩
theorem FQ.size : FQ base s F Y w w' → w.heap.size ≤ w'.heap.size := fun ⟨S, f, _⟩ => f.size
theorem FQ.fx (h : SM w base tb num dm dr D s sl F) (hY : ∀ y, Y y → y = tb ∨ y ∈ D) : FQ base s F Y w w' → FX base tsQ w w' := fun ⟨S, f, h1, g⟩ => ⟨S, f, fun b u us hb hu => by
  rcases g b hb with ⟨y, hy, hye, hF⟩ | h'
  · have := (h.sk y (hY y hy) hye).ty b u us hF hu
    simp only [List.mem_cons, List.not_mem_nil, or_false] at this
    rcases this with e | e | e | e <;> rw [e] <;> decide
  · have := h' u us hu
    simp only [List.mem_cons, List.not_mem_nil, or_false] at this
    rcases this with e | e <;> rw [e] <;> decide, h1⟩
/-- An iterator of another list. -/
theorem FQ.ski {it : Nat} {b : Bool} {vs rest : List Value} (h : SM w base tb num dm dr D s sl F) (hx : x = tb ∨ x ∈ D) (hxe : (s x).e = none) (hY : ∀ y, Y y → (y = tb ∨ y ∈ D) ∧ y ≠ x) (K : SKI (keyB s) w (sl x) (F x) vs it b rest) (f : FQ base s F Y w w') : SKI (keyB s) w' (sl x) (F x) vs it b rest := by
  obtain ⟨S, f, h1, g⟩ := f
  refine K.fr f (fun b hb hs => ?_) fun hs => ?_
  · rcases g b hs with ⟨y, hy, hye, hF⟩ | h'
    · exact h.dj x y hx (hY y hy).1 hxe hye (Ne.symm (hY y hy).2) b hb hF
    · obtain ⟨u, us, hu⟩ := K.sk.blk hb
      have h2 := h' u us hu
      have h3 := K.sk.ty b u us hb hu
      simp only [List.mem_cons, List.not_mem_nil, or_false] at h2 h3
      rcases h2 with e | e <;> rw [e] at h3 <;> simp at h3
  · obtain ⟨us, hu⟩ := K.blk
    rcases g it hs with ⟨y, hy, hye, hF⟩ | h'
    · have h3 := (h.sk y (hY y hy).1 hye).ty it _ us hF hu
      simp at h3
    · have h2 := h' _ us hu
      simp at h2
/-- From a number on. -/
theorem hi_bnd {s : RSt} {v : Int} : ∀ {l : List Nat}, (l.map fun c => (s c).v).Pairwise (· < ·) → hiV (keyB s) v (l.map (bnd s)) = (l.drop (lbd v (l.map fun c => (s c).v))).map (bnd s)
  | [], _ => rfl
  | a :: l, h => by
    have h : (((s a).v) :: l.map fun c => (s c).v).Pairwise (· < ·) := h
    obtain ⟨h1, h2⟩ := List.pairwise_cons.1 h
    by_cases ha : (s a).v < v
    · have e1 : lbd v ((a :: l).map fun c => (s c).v) = lbd v (l.map fun c => (s c).v) + 1 := by show (if (s a).v < v then _ else _) = _; rw [if_pos ha]
      rw [e1, List.drop_succ_cons, ← hi_bnd h2]
      unfold hiV
      rw [List.map_cons, List.filter_cons_of_neg]; rw [keyB_bnd]; simpa using ha
    · have e1 : lbd v ((a :: l).map fun c => (s c).v) = 0 := by show (if (s a).v < v then _ else _) = _; rw [if_neg ha]
      rw [e1, List.drop_zero]
      refine List.filter_eq_self.2 fun x hx => ?_
      obtain ⟨c, hc, rfl⟩ := List.mem_map.1 hx
      rw [keyB_bnd]
      rcases List.mem_cons.1 hc with rfl | hc
      · simpa using ha
      · have := h1 _ (List.mem_map.2 ⟨c, hc, rfl⟩)
        have : (s a).v < (s c).v := this
        simp; omega
theorem pick_pre {h : Int} : ∀ {l : List Nat} {t : Nat}, (∀ c ∈ l.take t, (s c).v ≤ h) → ∃ R, pick s h l = l.take t ++ R
  | l, 0, _ => ⟨pick s h l, rfl⟩
  | [], t + 1, _ => ⟨[], rfl⟩
  | a :: l, t + 1, H => by
    obtain ⟨R, hR⟩ := pick_pre (h := h) (l := l) (t := t) fun c hc => H c (by rw [List.take_succ_cons]; exact List.mem_cons_of_mem _ hc)
    refine ⟨R, ?_⟩
    unfold pick at hR ⊢
    rw [List.takeWhile_cons_of_pos (by simpa using H a (by rw [List.take_succ_cons]; exact List.mem_cons_self)), hR]; rfl
theorem pick_take {h : Int} : ∀ {l : List Nat} {t : Nat}, (∀ c ∈ l.take t, (s c).v ≤ h) → (∀ c, l[t]? = some c → ¬ (s c).v ≤ h) → pick s h l = l.take t
  | [], _, _, _ => by simp [pick]
  | a :: l, 0, _, H => by
    unfold pick
    rw [List.takeWhile_cons_of_neg (by simpa using H a rfl)]; rfl
  | a :: l, t + 1, H, H2 => by
    have ih := pick_take (h := h) (l := l) (t := t) (fun c hc => H c (by rw [List.take_succ_cons]; exact List.mem_cons_of_mem _ hc)) fun c hc => H2 c (by simpa using hc)
    unfold pick at ih ⊢
    rw [List.takeWhile_cons_of_pos (by simpa using H a (by rw [List.take_succ_cons]; exact List.mem_cons_self)), ih]; rfl
theorem m_next (p : Option Addr) (w : World) : (callMethod (.iface 163 (.pointer p)) "Next" [].toArray).run Tryz.prog w = .ok (.enter 126 #[.pointer p]) w := by kernel_rfl
theorem m_value (p : Option Addr) (w : World) : (callMethod (.iface 163 (.pointer p)) "Value" [].toArray).run Tryz.prog w = .ok (.enter 127 #[.pointer p]) w := by kernel_rfl
theorem SM.fx' {base' : Nat} {ts : List TypeId} (h : SM w base tb num dm dr D s sl F) (f : FX base' ts w w') (ht : ∀ u ∈ ts, u ∉ [60, 146, 148, 107, 117, 101, 29, 2]) : SM w' base tb num dm dr D s sl F := by
  obtain ⟨S, f, hS, _⟩ := f
  exact h.fr f fun b u us hs hu => ht u (hS b u us hs hu)
end
end Go.Proofs.YtfokodpnoiilbaaGreat.E

namespace Go.Proofs.YtfokodpnoiilbaaGreat.E
open Go
set_option linter.unusedSimpArgs false
set_option linter.unusedVariables false
set_option maxRecDepth 100000
set_option maxHeartbeats 8000000

section
variable {α β : Type}
/-- Keys that int64 and uint64 hold alike. -/
def PosN : (n : Nat) → ON α n → Prop
  | 0, _ => True
  | n + 1, L => ∀ p ∈ (show List (Int × ON α n) from L), (0 ≤ p.1 ∧ p.1 < 9223372036854775808) ∧ PosN n p.2
theorem posN_new : ∀ (n : Nat) (k : List Int) (e : α), (∀ v ∈ k, 0 ≤ v ∧ v < 9223372036854775808) → PosN n (newON n k e)
  | 0, _, _, _ => trivial
  | n + 1, [], _, _ => fun p hp => by cases hp
  | n + 1, v :: vs, e, h => fun p hp => by
    have : p = (v, newON n vs e) := by simpa [newON] using hp
    rw [this]
    exact ⟨h v List.mem_cons_self, posN_new n vs e fun u hu => h u (List.mem_cons_of_mem _ hu)⟩
theorem posN_add : ∀ (n : Nat) (L : ON α n) (k : List Int) (e : α), (∀ v ∈ k, 0 ≤ v ∧ v < 9223372036854775808) → PosN n L → PosN n (addON n L k e)
  | 0, _, _, _, _, _ => trivial
  | n + 1, L, [], e, _, h => h
  | n + 1, L, v :: vs, e, hk, h => fun p hp => by
    have hv := hk v List.mem_cons_self
    have hvs : ∀ u ∈ vs, 0 ≤ u ∧ u < 9223372036854775808 := fun u hu => hk u (List.mem_cons_of_mem _ hu)
    rcases mem_insL hp with hp | ⟨e1, h' | ⟨q, hq, _, h'⟩⟩
    · exact h p hp
    · exact ⟨by rw [e1]; exact hv, by rw [h']; exact posN_new n vs e hvs⟩
    · exact ⟨by rw [e1]; exact hv, by rw [h']; exact posN_add n q.2 vs e hvs (h q hq).2⟩
theorem posN_turn {n : Nat} {v : Int} {f : ON α n → Option (ON α n)} {L : List (Int × ON α n)} (h : ∀ p ∈ L, (0 ≤ p.1 ∧ p.1 < 9223372036854775808) ∧ PosN n p.2) (hf : ∀ x y, PosN n x → f x = some y → PosN n y) : ∀ p ∈ turnL v f L, (0 ≤ p.1 ∧ p.1 < 9223372036854775808) ∧ PosN n p.2 := fun p hp => by
  rcases mem_turnL hp with hp | ⟨e, q, hq, e2, hy⟩
  · exact h p hp
  · refine ⟨?_, hf _ _ (h q hq).2 hy⟩
    rw [e, ← e2]; exact (h q hq).1
theorem posN_delO : ∀ (n : Nat) (L : ON α n) (k : List Int) (M : ON α n), PosN n L → delO n L k = some M → PosN n M
  | 0, _, _, _, _, _ => trivial
  | n + 1, L, [], M, h, he => by
    have he : some L = some M := he
    injection he with he; rw [← he]; exact h
  | n + 1, L, v :: vs, M, h, he => by
    have hM : (M : List (Int × ON α n)) = turnL v (fun x => delO n x vs) (L : List (Int × ON α n)) := by
      unfold delO at he
      split at he
      · cases he
      · rename_i p L' hq
        injection he with he
        rw [hq, ← he]
    have := posN_turn (v := v) (f := fun x => delO n x vs) h fun x y hx hy => posN_delO n x vs y hx hy
    rw [← hM] at this
    exact this
theorem posN_delT : ∀ (n : Nat) (L : ON α n) (k : List Int), PosN n L → PosN n (delT n L k)
  | 0, _, _, _ => trivial
  | n + 1, L, [], h => h
  | n + 1, L, v :: vs, h => posN_turn (v := v) (f := fun x => delO n x vs) h fun x y hx hy => posN_delO n x vs y hx hy
theorem posN_map (f : α → β) : ∀ (n : Nat) (L : ON α n), PosN n (mapON n f L) → PosN n L
  | 0, _, _ => trivial
  | n + 1, L, h => fun p hp => by
    have := h (p.1, mapON n f p.2) (List.mem_map.2 ⟨p, hp, rfl⟩)
    exact ⟨this.1, posN_map f n p.2 this.2⟩
end
section
variable {base tb num dm B n : Nat} {dr : Int} {D : List Nat} {s : RSt} {sl : Nat → Nat} {F : Nat → Nat → Prop} {lev : Nat → Nat} {bx : Bx}
/-- What apply finds: the high end is not in it. -/
abbrev visS (bx : Bx) (m i : Nat) (L : ON (Option Dtn) m) : List (Option Dtn) := vis (plI bx.lo) (fun i => plI bx.hi i - 1) m i L
/-- apply. -/
theorem F58_spec (hdm : dm < 900) (hlo : ∀ i, 0 ≤ plI bx.lo i ∧ plI bx.lo i < 9223372036854775808) (hB : B < 90000) (hL : LV tb dm D s lev) : ∀ (m : Nat) {w : World} {k : Value → W} {x : Nat} {acc : List (Option Dtn)},
    SM w base tb num dm dr D s sl F → RIn tb B (m + 1) x D s → PosN (m + 1) (absN (m + 1) s x) → lev x = m + 1 → (s x).e = none → m + 1 ≤ dm → BxOk w bx → GatS base n acc w → acc.length + (visS bx (m + 1) (dm - m) (absN (m + 1) s x)).length ≤ 900000 →
    (∀ w', SM w' base tb num dm dr D s sl F → GatS base n (acc ++ visS bx (m + 1) (dm - m) (absN (m + 1) s x)) w' → FQ base s F (fun y => y ∈ x :: rch (m + 1) s x) w w' → k (.bool true) w') →
    F58 k (some ⟨tb, 0, none⟩) (some ⟨sl x, 0, none⟩) ((dm - (m + 1) : Nat) : Int) bx.vr (fnQ n) w
  | m, w, k, x, acc, h, hi, hps, hlx, hxe, hm, hb, hG, hN, hk => by
    unfold F58
    refine low_r hb (by omega) fun w1 f1 => high_r (hb.fr0 f1) (by omega) fun w2 f2 => ?_
    have f02 : Fr (fun _ => False) w w2 := f1.trans f2 fun _ h => h.elim
    have ei : dm - (m + 1) + 1 = dm - m := by omega
    rw [ei]
    obtain ⟨hv0, hv1⟩ := hlo (dm - m)
    rw [wrap_u64 hv0 (by omega)]
    have h2 := h.fr0 f02
    have hkl : (s x).kids.length < 100000 := by have := hi.b2 x List.mem_cons_self; omega
    have hsr := sr_keys hi.sr
    have hnd := (List.nodup_cons.1 hi.nd).1
    have hvis := vis_lvl (s := s) (plI bx.lo) (fun i => plI bx.hi i - 1) m (dm - m) x
    have hvis : visS bx (m + 1) (dm - m) (absN (m + 1) s x) = (pick s (plI bx.hi (dm - m) - 1) ((s x).kids.drop (lbd (plI bx.lo (dm - m)) (keysR s x)))).flatMap fun c => visS bx m (dm - m + 1) (absN m s c) := hvis
    rw [hvis] at hN hk
    have hLm : ∀ c ∈ (s x).kids.drop (lbd (plI bx.lo (dm - m)) (keysR s x)), c ∈ (s x).kids := fun c hc => List.mem_of_mem_drop hc
    refine F66_call (F66_spec (h2.sk x hi.hx hxe) (by rw [List.length_map]; omega) (h2.cmp hi.hx hxe (.inl rfl)) fun w3 it b0 rest0 K3 hrest hit f3 => back_any ?_)
    have hh := hi_bnd (v := plI bx.lo (dm - m)) hsr
    rw [hh] at hrest
    have hrest : (if b0 then rest0 else rest0.tail) = ((s x).kids.drop (lbd (plI bx.lo (dm - m)) (keysR s x))).map (bnd s) := hrest
    generalize hLz : (s x).kids.drop (lbd (plI bx.lo (dm - m)) (keysR s x)) = Lz at *
    generalize hhi : plI bx.hi (dm - m) = hv at *
    have h3 := h2.read hi.hx hxe K3.sk f3
    have q3 : FQ base s F (fun y => y ∈ x :: rch (m + 1) s x) w w3 := (FQ.of0 f02).trans (FQ.f h2 hi.hx hxe List.mem_cons_self f3)
    have x3 := h2.fx hi.hx hxe f3
    have z2 := f02.size
    -- the state of the loop
    refine F58_L1_rule (I := fun rt d iv fn hv' it' w' => rt = some ⟨tb, 0, none⟩ ∧ d = ((dm - (m + 1) : Nat) : Int) ∧ iv = bx.vr ∧ fn = fnQ n ∧ hv' = hv ∧ it' = .iface 163 (.pointer (some ⟨it, 0, none⟩)) ∧ ∃ r, ∃ (t : Nat) (b : Bool) (rest : List Value), r = Lz.length - t ∧ t ≤ Lz.length ∧ (∀ c ∈ Lz.take t, (s c).v ≤ hv - 1) ∧ SKI (keyB s) w' (sl x) (F x) ((s x).kids.map (bnd s)) it b rest ∧ (if b then rest else rest.tail) = (Lz.drop t).map (bnd s) ∧ SM w' base tb num dm dr D s sl F ∧ GatS base n (acc ++ (Lz.take t).flatMap fun c => visS bx m (dm - m + 1) (absN m s c)) w' ∧ BxOk w' bx ∧ FQ base s F (fun y => y ∈ x :: rch (m + 1) s x) w w')
      (μ := fun rt d iv fn hv' it' w' => lst fun r => ∃ (t : Nat) (b : Bool) (rest : List Value), r = Lz.length - t ∧ t ≤ Lz.length ∧ (∀ c ∈ Lz.take t, (s c).v ≤ hv - 1) ∧ SKI (keyB s) w' (sl x) (F x) ((s x).kids.map (bnd s)) it b rest ∧ (if b then rest else rest.tail) = (Lz.drop t).map (bnd s) ∧ SM w' base tb num dm dr D s sl F ∧ GatS base n (acc ++ (Lz.take t).flatMap fun c => visS bx m (dm - m + 1) (absN m s c)) w' ∧ BxOk w' bx ∧ FQ base s F (fun y => y ∈ x :: rch (m + 1) s x) w w')
      ?_ ⟨rfl, rfl, rfl, rfl, rfl, rfl, _, 0, b0, rest0, rfl, Nat.zero_le _, (fun c hc => by cases hc), K3, by rw [hrest]; rfl, h3, by rw [List.take_zero, List.flatMap_nil, List.append_nil]; exact (hG.fr0 f02).fx x3 (by decide), (hb.fr0 f02).fx x3 (by decide), q3⟩
    rintro _ _ _ _ hv _ w4 ⟨rfl, rfl, rfl, rfl, rfl, rfl, hI⟩
    obtain ⟨⟨t, b, rest, hr, ht, hle, K4, hre, h4, g4, hb4, q4⟩, hmin⟩ := lst_spec hI
    unfold F58_L1
    refine NextT_enterR (m_next _ w4) (F126_calls (F126_spec K4 fun w5 K5 f5 => back_bool ?_))
    rw [hre] at K5 ⊢
    obtain ⟨us, hit4⟩ := K4.blk
    have x5 : FX 0 [169] w4 w5 := ⟨_, f5, Tys.one hit4, fun _ _ => Nat.zero_le _⟩
    have h5 := h4.fx' x5 (by decide)
    have g5 := g4.fx x5 (by decide)
    have hb5 := hb4.fx x5 (by decide)
    have q5 : FQ base s F (fun y => y ∈ x :: rch (m + 1) s x) w w5 := q4.new f5 fun b hb => by have hb : b = it := hb; omega
    by_cases hend : Lz.drop t = []
    · rw [hend]
      rw [show decide (List.map (bnd s) [] ≠ []) = false from rfl, BIf_false]
      have htl : t = Lz.length := by have := List.drop_eq_nil_iff.1 hend; omega
      have hp : pick s (hv - 1) Lz = Lz.take t := pick_take hle fun c hc => by rw [htl, List.getElem?_eq_none (Nat.le_refl _)] at hc; cases hc
      rw [hp] at hk
      exact hk w5 h5 g5 q5
    · obtain ⟨c, R, hcR⟩ : ∃ c R, Lz.drop t = c :: R := by
        cases hq : Lz.drop t with
        | nil => exact absurd hq hend
        | cons c R => exact ⟨c, R, rfl⟩
      have hlt : t < Lz.length := by
        refine Nat.lt_of_not_le fun hle => ?_
        rw [List.drop_eq_nil_of_le hle] at hcR; cases hcR
      have hct : Lz[t]? = some c := by
        have : (Lz.drop t)[0]? = some c := by rw [hcR]; rfl
        rw [List.getElem?_drop] at this; exact this
      have hRt : Lz.drop (t + 1) = R := by
        have := congrArg List.tail hcR
        rw [List.tail_drop] at this; exact this
      have htk : Lz.take (t + 1) = Lz.take t ++ [c] := take_snoc hct
      rw [hcR] at K5 ⊢
      rw [show decide (List.map (bnd s) (c :: R) ≠ []) = true from rfl, BIf_true]
      refine NextT_enterR (m_value _ w5) (F127_calls (F127_spec K5 (back_any ?_)))
      have hcm : c ∈ (s x).kids := hLm c (List.mem_of_getElem? hct)
      have hcD := h.kd x hi.hx c hcm
      have hat : QAt w5 (bnd s c) (s c).v := by
        have hB := h5.nodes c hcD
        unfold ndT ndC at hB
        unfold bnd
        split
        · rename_i he; rw [if_pos he] at hB; exact .inr (.inr ⟨c, _, rfl, hB⟩)
        · rename_i he; rw [if_neg he] at hB; exact .inr (.inl ⟨c, _, rfl, hB⟩)
      refine as_intro hat (key_intro hat ?_)
      have hpc := hps ((s c).v, absN m s c) (List.mem_map.2 ⟨c, hcm, rfl⟩)
      obtain ⟨⟨hp0, hp1⟩, hps'⟩ := hpc
      have hp0 : 0 ≤ (s c).v := hp0
      have hp1 : (s c).v < 9223372036854775808 := hp1
      rw [wrap_i64 (by omega) (by omega)]
      by_cases hge : (s c).v ≥ hv
      · rw [decide_eq_true hge, BIf_true]
        have hp : pick s (hv - 1) Lz = Lz.take t := pick_take hle fun c' hc' => by
          rw [hct] at hc'; cases hc'; omega
        rw [hp] at hk
        exact hk w5 h5 g5 q5
      rw [decide_eq_false hge, BIf_false]
      have hle' : ∀ d ∈ Lz.take (t + 1), (s d).v ≤ hv - 1 := fun d hd => by
        rw [htk] at hd
        rcases List.mem_append.1 hd with hd | hd
        · exact hle d hd
        · rw [List.mem_singleton] at hd; rw [hd]; omega
      obtain ⟨R', hR'⟩ := pick_pre hle'
      have hNt : (acc ++ (Lz.take t).flatMap fun c => visS bx m (dm - m + 1) (absN m s c)).length + (visS bx m (dm - m + 1) (absN m s c)).length ≤ 900000 := by
        rw [hR', htk, List.flatMap_append, List.flatMap_append, List.flatMap_cons, List.flatMap_nil, List.append_nil] at hN
        simp only [List.length_append] at hN ⊢
        omega
      have hfm : (Lz.take (t + 1)).flatMap (fun c => visS bx m (dm - m + 1) (absN m s c)) = (Lz.take t).flatMap (fun c => visS bx m (dm - m + 1) (absN m s c)) ++ visS bx m (dm - m + 1) (absN m s c) := by
        rw [htk, List.flatMap_append, List.flatMap_cons, List.flatMap_nil, List.append_nil]
      generalize hacc : acc ++ (Lz.take t).flatMap (fun c => visS bx m (dm - m + 1) (absN m s c)) = acc' at g5 hNt
      -- the next round
      have nxt : ∀ w6, SKI (keyB s) w6 (sl x) (F x) ((s x).kids.map (bnd s)) it false (List.map (bnd s) (c :: R)) → SM w6 base tb num dm dr D s sl F → GatS base n (acc' ++ visS bx m (dm - m + 1) (absN m s c)) w6 → BxOk w6 bx → FQ base s F (fun y => y ∈ x :: rch (m + 1) s x) w w6 →
          ∃ r, (∃ (t : Nat) (b : Bool) (rest : List Value), r = Lz.length - t ∧ t ≤ Lz.length ∧ (∀ c ∈ Lz.take t, (s c).v ≤ hv - 1) ∧ SKI (keyB s) w6 (sl x) (F x) ((s x).kids.map (bnd s)) it b rest ∧ (if b then rest else rest.tail) = (Lz.drop t).map (bnd s) ∧ SM w6 base tb num dm dr D s sl F ∧ GatS base n (acc ++ (Lz.take t).flatMap fun c => visS bx m (dm - m + 1) (absN m s c)) w6 ∧ BxOk w6 bx ∧ FQ base s F (fun y => y ∈ x :: rch (m + 1) s x) w w6) ∧ r < Lz.length - t := fun w6 K6 h6 g6 hb6 q6 =>
        ⟨Lz.length - (t + 1), ⟨t + 1, false, _, rfl, hlt, hle', K6, by rw [hRt]; rfl, h6, by rw [hfm, ← List.append_assoc, hacc]; exact g6, hb6, q6⟩, by omega⟩
      simp only [NN_mk, add_mk, Nat.zero_add]
      refine load_int (i := 1) h5.top rfl ?_
      match m, hi, hps', hlx, hm, hN, hk, hvis, nxt, hNt, hmin, hr, hnd, q5, ei with
      | 0, hi, hps', hlx, hm, hN, hk, hvis, nxt, hNt, hmin, hr, hnd, q5, ei =>
        refine F64_call (F64_yes (by omega) (by omega) (back_bool ?_))
        rw [BIf_true]
        have hce : (s c).e.isSome = true := (hL.l c hcD).2 (by have := hL.k x hi.hx c hcm; omega)
        obtain ⟨x0, hx0⟩ := Option.isSome_iff_exists.1 hce
        rw [show bnd s c = bLast c from if_pos hce]
        refine TAs_ptr ?_
        simp only [NN_mk, add_mk, Nat.zero_add]
        have hBc := h5.nodes c hcD
        have hBc : Blk w5 c 146 [.int .u64 (s c).v, x0.vs] := by
          unfold ndT ndC at hBc
          rw [if_pos hce, hx0] at hBc; exact hBc
        refine load_any (i := 1) hBc rfl ?_
        refine cbS g5 (h5.ok c hcD x0 hx0) (by omega) fun w6 g6 f6 => ?_
        rw [show (!true) = false from rfl, BIf_false]
        have q6 : FQ base s F (fun _ => False) w5 w6 := FQ.ft f6
        have x6 : FX base [70, 76] w5 w6 := f6
        have he : visS bx 0 (dm - 0 + 1) (absN 0 s c) = [some x0] := by
          show [(s c).e] = _
          rw [hx0]
        obtain ⟨r6, hP6, hr6⟩ := nxt w6 (q6.ski h5 hi.hx hxe (fun y hy => hy.elim) K5) (h5.fx' x6 (by decide)) (by rw [he]; exact g6) (hb5.fx x6 (by decide)) (q5.trans (q6.mono fun _ h => h.elim))
        refine ⟨⟨by trivial, by trivial, by trivial, by trivial, by trivial, by trivial, r6, hP6⟩, Nat.lt_of_le_of_lt ((lst_spec (P := _) ⟨r6, hP6⟩).2 r6 hP6) ?_⟩
        rw [hr]; exact hr6
      | m + 1, hi, hps', hlx, hm, hN, hk, hvis, nxt, hNt, hmin, hr, hnd, q5, ei =>
        refine F64_call (F64_no (by omega) (by omega) (back_bool ?_))
        rw [BIf_false]
        have hcl : lev c = m + 1 := by have := hL.k x hi.hx c hcm; omega
        have hce : (s c).e = none := by
          cases hq : (s c).e with
          | none => rfl
          | some y =>
            have := (hL.l c hcD).1 (by rw [hq]; rfl)
            omega
        rw [show bnd s c = bDim c from if_neg (by rw [hce]; simp)]
        refine TAs_ptr ?_
        simp only [NN_mk, add_mk, Nat.zero_add]
        have hBc := h5.nodes c hcD
        have hBc : Blk w5 c 148 [.int .u64 (s c).v, .pointer (some ⟨sl c, 0, none⟩)] := by
          unfold ndT ndC at hBc
          rw [hce] at hBc; exact hBc
        refine load_ptr (i := 1) hBc rfl ?_
        have hadd : addI .u64 ((dm - (m + 1 + 1) : Nat) : Int) 1 = ((dm - (m + 1) : Nat) : Int) := by rw [addI_u64 (by omega) (by omega)]; omega
        rw [hadd]
        have e2 : dm - (m + 1) + 1 = dm - m := by omega
        rw [e2] at hNt
        refine F58_call (F58_spec hdm hlo hB hL m h5 (RIn.found h.kd hi hcm) hps' hcl hce (by omega) hb5 g5 hNt fun w6 h6 g6 q6 => back_bool ?_)
        rw [show (!true) = false from rfl, BIf_false]
        have hsub : ∀ y ∈ c :: rch (m + 1) s c, y ∈ rch (m + 1 + 1) s x := fun y hy => List.mem_flatMap.2 ⟨c, hcm, hy⟩
        have hcD' : ∀ y ∈ c :: rch (m + 1) s c, (y = tb ∨ y ∈ D) ∧ y ≠ x := fun y hy => ⟨.inr (rch_D _ h.kd hi.hx y (hsub y hy)), fun e => hnd (e ▸ hsub y hy)⟩
        have x6 := q6.fx h5 fun y hy => (hcD' y hy).1
        obtain ⟨r6, hP6, hr6⟩ := nxt w6 (q6.ski h5 hi.hx hxe hcD' K5) h6 (by rw [e2]; exact g6) (hb5.fx x6 (by decide)) (q5.trans (q6.mono fun y hy => List.mem_cons_of_mem _ (hsub y hy)))
        refine ⟨⟨by trivial, by trivial, by trivial, by trivial, by trivial, by trivial, r6, hP6⟩, Nat.lt_of_le_of_lt ((lst_spec (P := _) ⟨r6, hP6⟩).2 r6 hP6) ?_⟩
        rw [hr]; exact hr6
end
end Go.Proofs.YtfokodpnoiilbaaGreat.E

namespace Go.Proofs.YtfokodpnoiilbaaGreat.E
open Go
set_option linter.unusedSimpArgs false
set_option linter.unusedVariables false
set_option maxRecDepth 100000
set_option maxHeartbeats 8000000

section
variable {w : World} {k : Value → W} {base tb dm B : Nat} {L : ON (Option Dtn) dm}
/-- Query. -/
theorem F56_spec {bx : Bx} (h : TrS w base tb dm B L) (hb : BxOk w bx) (hlo : ∀ i, 0 ≤ plI bx.lo i ∧ plI bx.lo i < 9223372036854775808) (hps : PosN dm L) (hd1 : 1 ≤ dm) (hdm : dm < 900) (hB : B < 90000)
    (hk : ∀ w' p c, TrS w' base tb dm B L → Own w' 76 p (visS bx dm 1 L).length c ((visS bx dm 1 L).map rdS) → (∀ o ∈ visS bx dm 1 L, ∀ x, o = some x → DtOk w' x) → FX base tsQ w w' → k (.slice p (visS bx dm 1 L).length c) w') : F56 k (some ⟨tb, 0, none⟩) bx.vr w := by
  obtain ⟨ie, g1, g2, g3, g4⟩ := inf153
  have hvl : (visS bx dm 1 L).length ≤ szN dm L := vis_len (plI bx.lo) (fun i => plI bx.hi i - 1) dm 1 L
  have hbase := h.base
  unfold F56
  refine make_intro 0 100 und144 g1 g2 g3 rfl (by omega) (by omega) (by omega) fun w1 f1 o1 b1 z1 => ?_
  refine new_intro fun n w2 e2 b2 f2 z2 => ?_
  refine store_intro (i := 0) b2 (by simp) rfl fun w3 b3 f3 z3 => ?_
  have b3 : Blk w3 n 70 [.slice (some ⟨w.heap.size, 0, none⟩) 0 100] := b3
  have f03 : Fr (fun _ => False) w w3 := by
    have : Fr (fun b => b = n) w w3 := ((f1.mono (S' := fun b => b = n) fun _ h => h.elim).trans f2 fun _ h => h.elim).trans f3 fun _ h => .inl h
    exact this.mono fun b h => .inr (by have h : b = n := h; omega)
  have g3' : GatS base n [] w3 := ⟨_, _, b3, (o1.fr f2 fun _ _ => id).fr f3 fun b hb e => by
    have := bl_q.1 hb
    have e : b = n := e
    omega, fun o ho => (by cases ho), by have := f1.size; omega, fun b hb => by have := bl_q.1 hb; omega⟩
  obtain ⟨D, s, sl, F, lev, dr, h1, h2, h3, h4, h5⟩ := h.fr0 f03
  simp only [NN_mk]
  refine load_ptr (i := 0) h1.top rfl ?_
  obtain ⟨m, rfl⟩ : ∃ m, dm = m + 1 := ⟨dm - 1, by omega⟩
  have e0 : ((m + 1 - (m + 1) : Nat) : Int) = 0 := by omega
  have e1 : m + 1 - m = 1 := by omega
  have hps' : PosN (m + 1) (absN (m + 1) s tb) := by rw [h4]; exact hps
  have sp := F58_spec (k := fun v => Back (.s (.one .bool)) (fun b7 => LoadT .slice ⟨n, 0, none⟩ fun s8p s8l s8c => k (.slice s8p s8l s8c)) (.returned v)) (bx := bx) (acc := []) hdm hlo hB h2 m h1 h3 hps' h2.t h1.te (Nat.le_refl _) (hb.fr0 f03) g3' (by rw [e1, h4]; simp only [List.length_nil]; omega)
  rw [e0, e1, h4] at sp
  refine F58_call (sp fun w4 h' ga f4 => back_bool ?_)
  rw [List.nil_append] at ga
  obtain ⟨p, c, hB4, O4, hok, _⟩ := ga
  refine load_slice (i := 0) hB4 rfl ?_
  have x4 : FX base tsQ w3 w4 := f4.fx h1 fun y hy => by
    rcases List.mem_cons.1 hy with rfl | hy
    · exact .inl rfl
    · exact .inr (rch_D _ h1.kd (.inl rfl) y hy)
  exact hk w4 p c ⟨D, s, sl, F, lev, dr, h', h2, h3, h4, h5⟩ O4 hok ((FX.of0 f03).trans x4)
end
/-! ## Plain: runs -/
def stepX (dm : Nat) (M : OP dm) (s : DStp) : OP dm := if s.op = 1 then addsP dm M s.dots else if s.op = 2 then delsP dm M s.dots else M
def ansX (dm : Nat) (M : OP dm) (hi : Nat → Int) (s : DStp) : DAns := if s.op = 1 then ansD (oldsP dm M s.dots) else if s.op = 2 then ansD (goneP dm M s.dots) else if s.op = 3 then ansD (s.dots.map (oldP dm M)) else if s.op = 4 then ansD (vis (plI s.low) hi dm 1 M) else ⟨[], [], szN dm M⟩
def runX (dm : Nat) (M : OP dm) (ss : List DStp) : OP dm := ss.foldl (stepX dm) M
def runXA (dm : Nat) (hi : DStp → Nat → Int) : OP dm → List DStp → List DAns
  | _, [] => []
  | M, s :: ss => ansX dm M (hi s) s :: runXA dm hi (stepX dm M s) ss
theorem runX_snoc (dm : Nat) (M : OP dm) (ss : List DStp) (s : DStp) : runX dm M (ss ++ [s]) = stepX dm (runX dm M ss) s := by unfold runX; rw [List.foldl_append]; rfl
theorem runXA_snoc (dm : Nat) (hi : DStp → Nat → Int) : ∀ (ss : List DStp) (M : OP dm) (s : DStp), runXA dm hi M (ss ++ [s]) = runXA dm hi M ss ++ [ansX dm (runX dm M ss) (hi s) s]
  | [], M, s => rfl
  | t :: ss, M, s => by
    show ansX dm M (hi t) t :: runXA dm hi (stepX dm M t) (ss ++ [s]) = ansX dm M (hi t) t :: runXA dm hi (stepX dm M t) ss ++ [ansX dm (runX dm (stepX dm M t) ss) (hi s) s]
    rw [runXA_snoc dm hi ss]; rfl
theorem runXA_length (dm : Nat) (hi : DStp → Nat → Int) : ∀ (ss : List DStp) (M : OP dm), (runXA dm hi M ss).length = ss.length
  | [], _ => rfl
  | s :: ss, M => by show (runXA dm hi _ ss).length + 1 = _; rw [runXA_length dm hi ss]; rfl
/-- The high end is not in it. -/
def hiS (s : DStp) (i : Nat) : Int := plI s.high i - 1
def hiR (s : DStp) (i : Nat) : Int := plI s.high i
/-- What a step asks. -/
structure OkX (s : DStp) : Prop where
  dots : ∀ x ∈ s.dots, x.1.length < 1000 ∧ PosP x
  dl : s.dots.length < 80000
  ll : s.low.length < 1000
  hl : s.high.length < 1000
  lo : ∀ i, 0 ≤ plI s.low i ∧ plI s.low i < 9223372036854775808
  op : s.op = 1 ∨ s.op = 2 ∨ s.op = 3 ∨ s.op = 4 ∨ s.op = 6
theorem kyP_pos {x : PD} (h : PosP x) : ∀ (m i : Nat), ∀ v ∈ kyP x.1 m i, 0 ≤ v ∧ v < 9223372036854775808
  | 0, i, v, hv => by cases hv
  | m + 1, i, v, hv => by
    rcases List.mem_cons.1 hv with rfl | hv
    · exact h i
    · exact kyP_pos h m (i + 1) v hv
theorem posN_adds (dm : Nat) : ∀ (xs : List PD) (M : OP dm), (∀ x ∈ xs, PosP x) → PosN dm M → PosN dm (addsP dm M xs)
  | [], _, _, h => h
  | x :: xs, M, hx, h => posN_adds dm xs (addP dm M x) (fun y hy => hx y (List.mem_cons_of_mem _ hy)) (posN_add dm M _ _ (kyP_pos (hx x List.mem_cons_self) dm 1) h)
theorem posN_dels (dm : Nat) : ∀ (xs : List PD) (M : OP dm), PosN dm M → PosN dm (delsP dm M xs)
  | [], _, h => h
  | x :: xs, M, h => posN_dels dm xs (delP dm M x) (by
    unfold delP
    split
    · exact h
    · exact posN_delT dm M _ h)
theorem posN_step (dm : Nat) (M : OP dm) (s : DStp) (ok : OkX s) (h : PosN dm M) : PosN dm (stepX dm M s) := by
  unfold stepX
  split
  · exact posN_adds dm _ M (fun x hx => (ok.dots x hx).2) h
  · split
    · exact posN_dels dm _ M h
    · exact h
theorem posN_run (dm : Nat) : ∀ (ss : List DStp) (M : OP dm), (∀ s ∈ ss, OkX s) → PosN dm M → PosN dm (runX dm M ss)
  | [], _, _, h => h
  | s :: ss, M, ok, h => posN_run dm ss (stepX dm M s) (fun t ht => ok t (List.mem_cons_of_mem _ ht)) (posN_step dm M s (ok s List.mem_cons_self) h)
theorem m_sdel (p a : Option Addr) (l c : Nat) (w : World) : (callMethod (.iface 57 (.pointer p)) "Delete" [.slice a l c].toArray).run Tryz.prog w = .ok (.enter 52 #[.pointer p, .slice a l c]) w := by kernel_rfl
theorem m_sque (p : Option Addr) (v : Value) (w : World) : (callMethod (.iface 57 (.pointer p)) "Query" [v].toArray).run Tryz.prog w = .ok (.enter 56 #[.pointer p, v]) w := by kernel_rfl
theorem mo_sdel {w : World} {p : Option Addr} {x : W} (h : x w) : MethOk Tryz.prog (.func (.method "Delete") #[.iface 57 (.pointer p)] #[]) x w := ⟨fun w' => by kernel_rfl, h⟩
theorem FX.sq {base : Nat} {w w' : World} (h : FX base tsS w w') : FX base tsQ w w' := h.mono (by decide)
end Go.Proofs.YtfokodpnoiilbaaGreat.E

namespace Go.Proofs.YtfokodpnoiilbaaGreat.E
open Go
set_option linter.unusedSimpArgs false
set_option linter.unusedVariables false
set_option maxRecDepth 100000
set_option maxHeartbeats 8000000

theorem posN_nil : ∀ dm, PosN dm (mapE dm (nilN dm))
  | 0 => trivial
  | n + 1 => fun p hp => by cases hp
section
variable {w : World} {k : Value → W} {base tb dm B : Nat} {M : OP dm}
/-- A step. -/
theorem F16_x {s : DStp} {on dim idx num : Int} {p pl ph : Option Addr} {c cl ch : Nat} (h : TrSB w base tb dm B M) (hS : Sl (DoK 42) w p s.dots) (hlo : Sl In64K w pl s.low) (hhi : Sl In64K w ph s.high) (ok : OkX s) (hps : PosN dm M) (hd1 : 1 ≤ dm) (hdm : dm < 900) (hB : B + s.dots.length < 90000)
    (hk : ∀ w' p' c' q d, TrSB w' base tb dm (B + s.dots.length) (stepX dm M s) → Sl (DoK 42) w' p' (ansX dm M (hiS s) s).dots → Sl BoK w' q (ansX dm M (hiS s) s).is → FX base tsQ w w' → k (.agg #[.slice p' (ansX dm M (hiS s) s).dots.length c', .slice q (ansX dm M (hiS s) s).is.length d, .slice none 0 0, .int .u64 (((ansX dm M (hiS s) s).n : Nat) : Int)]) w') :
    F16 k (.iface 57 (.pointer (some ⟨tb, 0, none⟩))) s.op on p s.dots.length c pl s.low.length cl ph s.high.length ch dim idx num ((s.most : Nat) : Int) w := by
  have hsh := ok.dots
  have hdl := ok.dl
  have hops := ok.op
  unfold F16
  refine new_intro fun n11 w1 e1 b1 f1 z1 => new_intro fun n12 w2 e2 b2 f2 z2 => ?_
  have b1 := b1.fr f2 id
  refine load_slice (i := 3) b1 rfl (load_slice (i := 4) b1 rfl ?_)
  refine new_intro fun n15 w3 e3 b3 f3 z3 => ?_
  refine store_intro (i := 0) b3 (by simp) rfl fun w4 b4 f4 z4 => ?_
  refine store_intro (i := 1) b4 (by simp) rfl fun w5 b5 f5 z5 => ?_
  refine store_intro (i := 2) b5 (by simp) rfl fun w6 b6 f6 z6 => ?_
  have f36 : Fr (fun b => b = n15) w3 w6 := (f4.trans f5 fun _ h => .inl h).trans f6 fun _ h => .inl h
  have b1 := (b1.fr f3 id).fr f36 (fun e => by omega)
  have b2 := (b2.fr f3 id).fr f36 (fun e => by omega)
  have f02 : Fr (fun _ => False) w w6 := ((f1.trans f2 fun _ h => h.elim).trans f3 fun _ h => h.elim).trans f36 fun b hb => .inr (by have hb : b = n15 := hb; omega)
  refine load_int (i := 0) b1 rfl ?_
  -- the end: an answer of entries
  have fin : ∀ (wz : World) (os : List (Option Dtn)) (p' : Option Addr) (c' : Nat) (q : Option Addr) (d : Nat), TrSB wz base tb dm (B + s.dots.length) (stepX dm M s) → ansD (os.map (Option.map Dtn.pl)) = ansX dm M (hiS s) s → Blk wz n12 38 [.slice none 0 0, .slice none 0 0, .slice none 0 0, .int .u64 0] →
      SlO (DoK 42) wz p' os.length c' (os.map fun o => pdO (o.map Dtn.pl)) → SlO BoK wz q os.length d (os.map Option.isSome) → FX base tsQ w wz →
      (Store1 ⟨n12, 0, none⟩ (.slice p' os.length c') <|
       Store1 ⟨n12, 1, none⟩ (.slice q os.length d) <|
       Store1 ⟨n12, 2, none⟩ (.slice none 0 0) <|
       Store1 ⟨n12, 3, none⟩ (.int .u64 0) <|
       LoadT .slice ⟨n12, 0, none⟩ fun s1p s1l s1c =>
       LoadT .slice ⟨n12, 1, none⟩ fun s2p s2l s2c =>
       LoadT .slice ⟨n12, 2, none⟩ fun s3p s3l s3c =>
       LoadT (.int .u64) ⟨n12, 3, none⟩ fun x4 =>
       k (.agg #[.slice s1p s1l s1c, .slice s2p s2l s2c, .slice s3p s3l s3c, .int .u64 x4])) wz := fun wz os p' c' q d hz ea bz A H fz => by
    refine fin33 bz rfl fun w' f' => ?_
    have T : Tys (fun b => b = n12) wz [38] := Tys.one bz
    have ed : (ansX dm M (hiS s) s).dots = os.map fun o => pdO (o.map Dtn.pl) := by rw [← ea]; unfold ansD; rw [List.map_map]; rfl
    have ei : (ansX dm M (hiS s) s).is = os.map Option.isSome := by
      rw [← ea]
      show (os.map (Option.map Dtn.pl)).map Option.isSome = _
      rw [List.map_map]
      exact List.map_congr_left fun o _ => by cases o <;> rfl
    have en : (ansX dm M (hiS s) s).n = 0 := by rw [← ea]; rfl
    have := hk w' p' c' q d (FX.tsB (base' := 0) hz ⟨_, f', T, fun _ _ => Nat.zero_le _⟩ (by decide)) (by rw [ed]; exact A.sl.fr f' T (by decide)) (by rw [ei]; exact H.sl.fr f' T (by decide)) (fz.new f' fun b hb => by have hb : b = n12 := hb; omega)
    rw [ed, ei, en, List.length_map, List.length_map] at this
    exact this
  rcases hops with o1 | o2 | o3 | o4 | o6
  · have eM : stepX dm M s = addsP dm M s.dots := if_pos o1
    have eA : ansX dm M (hiS s) s = ansD (oldsP dm M s.dots) := if_pos o1
    rw [show (s.op == 1) = true by rw [o1]; rfl, BIf_true]
    refine drw_intro fun w3 f3 z3 => ?_
    have b13 := b1.fr f3 id
    refine load_slice (i := 2) b13 rfl (mo_sadd ?_)
    have f03 := f02.trans f3 fun _ h => h.elim
    refine F21_call (F21_spec (hS.fr0 f03) (fun x hx => (hsh x hx).1) (by omega) fun w4 p4 c4 ys O4 hys ok4 f4 => back_slice ?_)
    have f04 := f03.trans f4 fun _ h => h.elim
    have hyl : s.dots.length = ys.length := by rw [← hys, List.length_map]
    obtain ⟨L, hT, hL⟩ := h.fr0 f04
    rw [hyl] at O4 hB
    have b14 := b13.fr f4 id
    rw [hyl]
    refine NextT_enter (m_sadd _ _ _ _ w4) (F50_calls (F50_spec hT O4 ok4 (pos_pl hys fun x hx => (hsh x hx).2) hd1 hdm hB fun w5 p5 c5 hT5 O5 ok5 f5 => back_slice ?_))
    have b15 := f5.blk b14 (by decide)
    refine chk (i := 2) b15 (by rw [← hyl]; rfl) ?_
    have hol := oldsE_length dm ys L
    rw [← hol] at O5
    rw [← hol]
    refine F20_call (F20_spec O5 ok5 (by rw [hol]; omega) fun w6 p6 c6 q6 d6 A6 H6 f6 => back_da ?_)
    refine chk (i := 2) (b15.fr f6 id) (by rw [hol, ← hyl]; rfl) ?_
    refine fin w6 _ p6 c6 q6 d6 ?_ ?_ ((f5.blk ((b2.fr f3 id).fr f4 id) (by decide)).fr f6 id) A6 H6 (((FX.of0 f04).trans f5.sq).trans (.of0 f6))
    · rw [eM, hyl, ← hys, ← hL]
      exact ⟨_, hT5.fr0 f6, mapE_adds dm ys L⟩
    · rw [eA, mapE_olds, hL, hys]
  · have eM : stepX dm M s = delsP dm M s.dots := by unfold stepX; rw [if_neg (by omega), if_pos o2]
    have eA : ansX dm M (hiS s) s = ansD (goneP dm M s.dots) := by unfold ansX; rw [if_neg (by omega), if_pos o2]
    rw [show (s.op == 1) = false from beq_eq_false_iff_ne.2 (by omega), BIf_false, show (s.op == 2) = true by rw [o2]; rfl, BIf_true]
    refine drw_intro fun w3 f3 z3 => ?_
    have b13 := b1.fr f3 id
    refine load_slice (i := 2) b13 rfl (mo_sdel ?_)
    have f03 := f02.trans f3 fun _ h => h.elim
    refine F21_call (F21_spec (hS.fr0 f03) (fun x hx => (hsh x hx).1) (by omega) fun w4 p4 c4 ys O4 hys ok4 f4 => back_slice ?_)
    have f04 := f03.trans f4 fun _ h => h.elim
    have hyl : s.dots.length = ys.length := by rw [← hys, List.length_map]
    obtain ⟨L, hT, hL⟩ := h.fr0 f04
    rw [hyl] at O4 hB
    have b14 := b13.fr f4 id
    rw [hyl]
    refine NextT_enter (m_sdel _ _ _ _ w4) (F52_calls (F52_spec hT O4 ok4 (pos_pl hys fun x hx => (hsh x hx).2) hd1 hdm (by omega) (by omega) fun w5 p5 c5 hT5 O5 ok5 f5 => back_slice ?_))
    have b15 := f5.blk b14 (by decide)
    refine chk (i := 2) b15 (by rw [← hyl]; rfl) ?_
    have hol := goneE_length dm ys L
    rw [← hol] at O5
    rw [← hol]
    refine F20_call (F20_spec O5 ok5 (by rw [hol]; omega) fun w6 p6 c6 q6 d6 A6 H6 f6 => back_da ?_)
    refine chk (i := 2) (b15.fr f6 id) (by rw [hol, ← hyl]; rfl) ?_
    refine fin w6 _ p6 c6 q6 d6 ?_ ?_ ((f5.blk ((b2.fr f3 id).fr f4 id) (by decide)).fr f6 id) A6 H6 (((FX.of0 f04).trans f5.sq).trans (.of0 f6))
    · rw [eM, hyl, ← hys, ← hL]
      exact ⟨_, (hT5.fr0 f6).le (by omega), mapE_dels dm ys L⟩
    · rw [eA, mapE_gone, hL, hys]
  · have eM : stepX dm M s = M := by unfold stepX; rw [if_neg (by omega), if_neg (by omega)]
    have eA : ansX dm M (hiS s) s = ansD (s.dots.map (oldP dm M)) := by unfold ansX; rw [if_neg (by omega), if_neg (by omega), if_pos o3]
    rw [show (s.op == 1) = false from beq_eq_false_iff_ne.2 (by omega), BIf_false, show (s.op == 2) = false from beq_eq_false_iff_ne.2 (by omega), BIf_false, show (s.op == 3) = true by rw [o3]; rfl, BIf_true]
    refine drw_intro fun w3 f3 z3 => ?_
    have b13 := b1.fr f3 id
    refine load_slice (i := 2) b13 rfl (mo_sget ?_)
    have f03 := f02.trans f3 fun _ h => h.elim
    refine F21_call (F21_spec (hS.fr0 f03) (fun x hx => (hsh x hx).1) (by omega) fun w4 p4 c4 ys O4 hys ok4 f4 => back_slice ?_)
    have f04 := f03.trans f4 fun _ h => h.elim
    have hyl : s.dots.length = ys.length := by rw [← hys, List.length_map]
    obtain ⟨L, hT, hL⟩ := h.fr0 f04
    rw [hyl] at O4 hB
    have b14 := b13.fr f4 id
    rw [hyl]
    refine NextT_enter (m_sget _ _ _ _ w4) (F53_calls (F53_spec hT O4 ok4 (pos_pl hys fun x hx => (hsh x hx).2) hd1 hdm (by omega) (by omega) fun w5 p5 c5 hT5 O5 ok5 f5 => back_slice ?_))
    have b15 := f5.blk b14 (by decide)
    refine chk (i := 2) b15 (by rw [← hyl]; rfl) ?_
    have hol : (ys.map (oldE dm L)).length = ys.length := List.length_map _
    rw [← hol] at O5
    rw [← hol]
    refine F20_call (F20_spec O5 ok5 (by rw [hol]; omega) fun w6 p6 c6 q6 d6 A6 H6 f6 => back_da ?_)
    refine chk (i := 2) (b15.fr f6 id) (by rw [hol, ← hyl]; rfl) ?_
    refine fin w6 _ p6 c6 q6 d6 ?_ ?_ ((f5.blk ((b2.fr f3 id).fr f4 id) (by decide)).fr f6 id) A6 H6 (((FX.of0 f04).trans f5.sq).trans (.of0 f6))
    · rw [eM, ← hL]
      exact ⟨_, (hT5.fr0 f6).le (by omega), rfl⟩
    · rw [eA, ← hys, List.map_map, List.map_map]
      congr 1
      exact List.map_congr_left fun y _ => by
        show (oldE dm L y).map Dtn.pl = oldP dm M y.pl
        rw [mapE_old, hL]
  · have eM : stepX dm M s = M := by unfold stepX; rw [if_neg (by omega), if_neg (by omega)]
    have eA : ansX dm M (hiS s) s = ansD (vis (plI s.low) (hiS s) dm 1 M) := by unfold ansX; rw [if_neg (by omega), if_neg (by omega), if_neg (by omega), if_pos o4]
    rw [show (s.op == 1) = false from beq_eq_false_iff_ne.2 (by omega), BIf_false, show (s.op == 2) = false from beq_eq_false_iff_ne.2 (by omega), BIf_false, show (s.op == 3) = false from beq_eq_false_iff_ne.2 (by omega), BIf_false, show (s.op == 4) = true by rw [o4]; rfl, BIf_true]
    have b6 : Blk w6 n15 67 [.slice pl s.low.length cl, .slice ph s.high.length ch, .int .u64 0] := b6
    refine load_slice (i := 0) b6 rfl (load_slice (i := 1) b6 rfl (load_int (i := 2) b6 rfl ?_))
    obtain ⟨L, hT, hL⟩ := h.fr0 f02
    have hbx : BxOk w6 ⟨pl, cl, s.low, ph, ch, s.high⟩ := ⟨hlo.fr0 f02, hhi.fr0 f02, ok.ll, ok.hl⟩
    refine NextT_enter (m_sque _ _ w6) (F56_calls (F56_spec (bx := ⟨pl, cl, s.low, ph, ch, s.high⟩) hT hbx ok.lo (posN_map (Option.map Dtn.pl) dm L (by rw [show mapON dm (Option.map Dtn.pl) L = M from hL]; exact hps)) hd1 hdm (by omega) fun w7 p7 c7 hT7 O7 ok7 f7 => back_slice ?_))
    have hvl : (visS ⟨pl, cl, s.low, ph, ch, s.high⟩ dm 1 L).length ≤ szN dm L := vis_len _ _ dm 1 L
    have hsz : szN dm L ≤ B := by
      obtain ⟨_, _, _, _, _, _, _, _, _, _, h5⟩ := hT; exact h5
    refine F20_call (F20_spec O7 ok7 (by omega) fun w8 p8 c8 q8 d8 A8 H8 f8 => back_da ?_)
    refine fin w8 _ p8 c8 q8 d8 ?_ ?_ ((f7.blk b2 (by decide)).fr f8 id) A8 H8 (((FX.of0 f02).trans f7).trans (.of0 f8))
    · rw [eM]
      exact ⟨_, (hT7.fr0 f8).le (by omega), hL⟩
    · rw [eA, ← hL]
      show ansD ((vis (plI s.low) (hiS s) dm 1 L).map (Option.map Dtn.pl)) = ansD (vis (plI s.low) (hiS s) dm 1 (mapON dm (Option.map Dtn.pl) L))
      rw [vis_map]
  · have eM : stepX dm M s = M := by unfold stepX; rw [if_neg (by omega), if_neg (by omega)]
    have eA : ansX dm M (hiS s) s = ⟨[], [], szN dm M⟩ := by unfold ansX; rw [if_neg (by omega), if_neg (by omega), if_neg (by omega), if_neg (by omega)]
    rw [show (s.op == 1) = false from beq_eq_false_iff_ne.2 (by omega), BIf_false, show (s.op == 2) = false from beq_eq_false_iff_ne.2 (by omega), BIf_false, show (s.op == 3) = false from beq_eq_false_iff_ne.2 (by omega), BIf_false, show (s.op == 4) = false from beq_eq_false_iff_ne.2 (by omega), BIf_false, show (s.op == 5) = false from beq_eq_false_iff_ne.2 (by omega), BIf_false, show (s.op == 6) = true by rw [o6]; rfl, BIf_true]
    obtain ⟨L, hT, hL⟩ := h.fr0 f02
    refine NextT_enter (m_slen _ w6) (F55_calls (F55_spec hT (back_int ?_)))
    refine fin33 b2 rfl fun w' f' => ?_
    have T : Tys (fun b => b = n12) w6 [38] := Tys.one b2
    have := hk w' none 0 none 0 (FX.tsB (base' := 0) (by rw [eM]; exact ⟨L, hT.le (by omega), hL⟩) ⟨_, f', T, fun _ _ => Nat.zero_le _⟩ (by decide)) (by rw [eA]; exact Sl.nil _ _ _) (by rw [eA]; exact Sl.nil _ _ _) ((FX.of0 f02).new f' fun b hb => by have hb : b = n12 := hb; omega)
    rw [eA, ← hL] at this
    have es : szN dm (mapE dm L) = szN dm L := szN_map _ dm L
    rw [es] at this
    exact this
/-- SRRun. -/
theorem F7_x {seed : Int} {ss : List DStp} {sp : Option Addr} {sc : Nat} (hd1 : 1 ≤ dm) (hdm : dm < 900) (hS : Sl DStK w sp ss) (ok : ∀ s ∈ ss, OkX s) (hl : ss.length < 1000) (ht : totD ss < 80000)
    (hk : ∀ w' p c, Sl DAnK w' p (runXA dm hiS (mapE dm (nilN dm)) ss) → Fr (fun _ => False) w w' → k (.slice p ss.length c) w') : F7 k ((dm : Nat) : Int) seed sp ss.length sc w := by
  obtain ⟨i59, g1, g2, g3, g4⟩ := inf59
  unfold F7
  refine F15_call (F15_spec (base := w.heap.size) hd1 hdm (Nat.le_refl _) fun w0 tb h0 f0 => back_any ?_)
  generalize hM0 : mapE dm (nilN dm) = M0 at hk
  have hps0 : PosN dm M0 := by rw [← hM0]; exact posN_nil dm
  have h0 : TrSB w0 w.heap.size tb dm 0 M0 := ⟨_, h0, hM0⟩
  refine F7_L1_rule (I := fun t' op ol oc sp' sl' sc' n j w' => t' = .iface 57 (.pointer (some ⟨tb, 0, none⟩)) ∧ sp' = sp ∧ sl' = ss.length ∧ sc' = sc ∧ n = ((ss.length : Nat) : Int) ∧ ∃ t : Nat, j = ((t : Nat) : Int) ∧ t ≤ ss.length ∧ ol = t ∧ TrSB w' w.heap.size tb dm (totD (ss.take t)) (runX dm M0 (ss.take t)) ∧
      SlO DAnK w' op ol oc (runXA dm hiS M0 (ss.take t)) ∧ (∀ b, bl op b → w.heap.size ≤ b) ∧ FX w.heap.size tsQ w w')
    (μ := fun t' op ol oc sp' sl' sc' n j w' => ss.length - j.toNat) ?_ ⟨rfl, rfl, rfl, rfl, rfl, 0, rfl, Nat.zero_le _, rfl, h0, SlO.nil _ _, (fun b ⟨_, h, _⟩ => by cases h), .of0 f0⟩
  rintro _ op ol oc _ sl' sc' n j w1 ⟨rfl, rfl, e1, e2, rfl, t, rfl, htl, rfl, h1, O1, hop, f1⟩
  obtain rfl := e2.symm
  unfold F7_L1
  rw [e1]
  have hz1 := f1.size
  by_cases hlt : ol < ss.length
  · rw [decide_eq_true (show ((ol : Nat) : Int) < ((ss.length : Nat) : Int) by omega), BIf_true]
    have hx : ss[ol]? = some ss[ol] := List.getElem?_eq_getElem hlt
    have hmem : ss[ol] ∈ ss := List.getElem_mem hlt
    generalize ss[ol] = st at hx hmem
    have okst := ok st hmem
    have hSw : Sl DStK w1 _ ss := f1.sl hS (by decide)
    obtain ⟨q, o, rfl, on, dp, dc, pl, cl, ph, ch, dim, idx, num, c0, c1, c2, c3, c4, c5, c6, c7, c8, hI, hlo, hhi⟩ := hSw.get hx
    simp only [NN_mk, Int.toNat_natCast, add_mk]
    refine ⟨by omega, LoadT_int.2 ⟨_, c0, LoadT_int.2 ⟨_, c1, LoadT_slice.2 ⟨_, _, _, c2, LoadT_slice.2 ⟨_, _, _, c3, LoadT_slice.2 ⟨_, _, _, c4, LoadT_int.2 ⟨_, c5, LoadT_int.2 ⟨_, c6, LoadT_int.2 ⟨_, c7, LoadT_int.2 ⟨_, c8, ?_⟩⟩⟩⟩⟩⟩⟩⟩⟩⟩
    refine new_intro fun n w2 e2 b2 f2 z2 => ?_
    refine store_intro (i := 0) b2 (by simp) rfl fun w3 b3 f3 z3 => ?_
    refine store_intro (i := 1) b3 (by simp) rfl fun w4 b4 f4 z4 => ?_
    refine store_intro (i := 2) b4 (by simp) rfl fun w5 b5 f5 z5 => ?_
    refine store_intro (i := 3) b5 (by simp) rfl fun w6 b6 f6 z6 => ?_
    refine store_intro (i := 4) b6 (by simp) rfl fun w7 b7 f7 z7 => ?_
    refine store_intro (i := 5) b7 (by simp) rfl fun w8 b8 f8 z8 => ?_
    refine store_intro (i := 6) b8 (by simp) rfl fun w9 b9 f9 z9 => ?_
    refine store_intro (i := 7) b9 (by simp) rfl fun wa ba fa za => ?_
    refine store_intro (i := 8) ba (by simp) rfl fun wb bb fb zb => ?_
    have bb : Blk wb n 31 [.int .i64 st.op, .int .i64 on, .slice dp st.dots.length dc, .slice pl st.low.length cl, .slice ph st.high.length ch, .int .u64 dim, .int .i64 idx, .int .i64 num, .int .i64 ((st.most : Nat) : Int)] := bb
    have i : ∀ x, x = n → x = n ∨ w1.heap.size ≤ x := fun _ h => .inl h
    have f14 : Fr (fun _ => False) w1 wb := by
      have : Fr (fun b => b = n) w1 wb := (((((((((f2.mono (S' := fun b => b = n) fun _ h => h.elim).trans f3 i).trans f4 i).trans f5 i).trans f6 i).trans f7 i).trans f8 i).trans f9 i).trans fa i).trans fb i
      exact this.mono fun b h => .inr (by have h : b = n := h; omega)
    refine load_int (i := 0) bb rfl (load_int (i := 1) bb rfl (load_slice (i := 2) bb rfl (load_slice (i := 3) bb rfl (load_slice (i := 4) bb rfl (load_int (i := 5) bb rfl (load_int (i := 6) bb rfl (load_int (i := 7) bb rfl (load_int (i := 8) bb rfl ?_))))))))
    have hsnL : runX dm M0 (ss.take (ol + 1)) = stepX dm (runX dm M0 (ss.take ol)) st := by rw [take_snoc hx, runX_snoc]
    have hsnA : runXA dm hiS M0 (ss.take (ol + 1)) = runXA dm hiS M0 (ss.take ol) ++ [ansX dm (runX dm M0 (ss.take ol)) (hiS st) st] := by rw [take_snoc hx, runXA_snoc]
    have hsnT : totD (ss.take (ol + 1)) = totD (ss.take ol) + st.dots.length := by rw [take_snoc hx, totD_snoc]
    have htt := totD_take ss (ol + 1)
    refine F16_call (F16_x (h1.fr0 f14) (hI.fr0 f14) (hlo.fr0 f14) (hhi.fr0 f14) okst (posN_run dm _ M0 (fun s hs => ok s (List.mem_of_mem_take hs)) hps0) hd1 hdm (by omega) fun wc pc cc qc dc h5 A5 H5 f5 => back_da ?_)
    generalize hst : ansX dm (runX dm M0 (ss.take ol)) (hiS st) st = a at *
    refine build_intro und55 g1 g2 (by omega) (by omega) (fill59 _ _ _ _ _ _ _ _ _ _ i59 g3) fun wd fd bd zd => ?_
    have O5 : SlO DAnK wc op ol oc (runXA dm hiS M0 (ss.take ol)) := f5.slO (O1.fr0 f14) (by decide)
    have f05 : FX w.heap.size tsQ w wc := (f1.trans (.of0 f14)).trans f5
    have z05 := f05.size
    have O6 := O5.fr0 fd
    have z5 := f5.size
    have z14 := f14.size
    refine SlO.append (K := DAnK) und55 g1 g2 g3 (by decide) rfl g4 (by decide) O6 bd (ys := [a]) (Rows.one ⟨pc, cc, qc, dc, rfl, rfl, rfl, rfl, A5.fr0 fd, H5.fr0 fd⟩) rfl rfl (fun u hu => ?_) (by omega) fun p' c' we fe O7 hp7 => ?_
    · simp only [List.mem_cons, List.not_mem_nil, or_false] at hu
      rcases hu with rfl | rfl | rfl | rfl <;> rfl
    rw [addI_i64 (by omega) (by omega)]
    have T7 : Tys (fun b => bl op b) wd [38] := O6.ty
    refine ⟨⟨by trivial, by trivial, by trivial, by trivial, by trivial, ol + 1, by omega, hlt, by trivial, ?_, ?_, fun b hb => ?_, (f05.trans (.of0 fd)).new fe fun b hb => hop b hb⟩, ?_⟩
    · rw [hsnL, hsnT]; exact FX.tsB (h5.fr0 fd) ⟨_, fe, T7, fun _ _ => Nat.zero_le _⟩ (by decide)
    · rw [hsnA]; exact O7
    · rcases hp7 b hb with h | h
      · exact hop b h
      · have := fd.size; omega
    · show ss.length - (((ol : Nat) : Int) + 1).toNat < ss.length - ((ol : Nat) : Int).toNat
      omega
  · rw [decide_eq_false (show ¬ ((ol : Nat) : Int) < ((ss.length : Nat) : Int) by omega), BIf_false]
    have : ol = ss.length := by omega
    subst this
    rw [List.take_length] at O1
    exact hk w1 op oc O1.sl (f1.fr0 (Nat.le_refl _))
end
end Go.Proofs.YtfokodpnoiilbaaGreat.E

namespace Go.Proofs.YtfokodpnoiilbaaGreat.E
open Go
set_option linter.unusedSimpArgs false
set_option linter.unusedVariables false
set_option maxRecDepth 100000
set_option maxHeartbeats 8000000

/-- The tree's own types, and the path's. -/
def tsD : List TypeId := [175, 97, 172, 188]
section
variable {w : World} {k : Value → W} {base tb num dm pl pc B : Nat} {pp : Option Addr} {D : List Nat} {s : RSt} {b : Nat}
theorem back_pi {f : Option Addr → Int → W} {p : Option Addr} {n : Int} (h : f p n w) : Back (.tup [(.one .ptr), (.one (.int .i64))]) f (.returned (.tuple #[.pointer p, .int .i64 n])) w := ⟨(p, n, ()), rfl, h⟩
/-- orderedNodes.get. -/
theorem F109_spec {value : Int} (h : RM w base tb num dm pp pl pc D s) (hb : b = tb ∨ b ∈ D) (hs : (keysR s b).Pairwise (· < ·)) (hl : (s b).kids.length < 100000)
    (hk1 : ∀ c, (s b).kids[lbd value (keysR s b)]? = some c → (s c).v = value → ∀ w', Fr (fun _ => False) w w' → k (.tuple #[.pointer (some ⟨c, 0, none⟩), .int .i64 ((lbd value (keysR s b) : Nat) : Int)]) w')
    (hk2 : (∀ c, (s b).kids[lbd value (keysR s b)]? = some c → (s c).v ≠ value) → ∀ w', Fr (fun _ => False) w w' → k (.tuple #[.pointer none, .int .i64 ((lbd value (keysR s b) : Nat) : Int)]) w') :
    F109 k (s b).p (s b).kids.length (s b).c value w := by
  have hle := lbd_le value (keysR s b)
  have hkl : (keysR s b).length = (s b).kids.length := by unfold keysR; rw [List.length_map]
  unfold F109
  refine F111_call (F111_spec h hb hs hl fun w2 f2 => back_int ?_)
  rw [show lbd value ((s b).kids.map fun c => (s c).v) = lbd value (keysR s b) from rfl]
  generalize hj : lbd value (keysR s b) = j at *
  have h2 := h.fr0 f2
  by_cases he : j = (s b).kids.length
  · rw [show (((j : Nat) : Int) == (((s b).kids.length : Nat) : Int)) = true by rw [beq_iff_eq]; omega, BIf_true]
    exact hk2 (fun c hc => by rw [he, List.getElem?_eq_none (Nat.le_refl _)] at hc; cases hc) w2 f2
  · rw [show (((j : Nat) : Int) == (((s b).kids.length : Nat) : Int)) = false by rw [beq_eq_false_iff_ne]; omega, BIf_false]
    have hil : j < (s b).kids.length := by omega
    have hold : (s b).kids[j]? = some (s b).kids[j] := List.getElem?_eq_getElem hil
    generalize (s b).kids[j] = old at hold
    have hoD : old ∈ D := h.kd b hb old (List.mem_of_getElem? hold)
    obtain ⟨q, rest, hp, hBq, hqc, hqm⟩ := (h2.own b hb).get (by omega)
    have cellq : ∀ {f : Option Addr → W}, f (some ⟨old, 0, none⟩) w2 → LoadT .ptr ⟨q, j, none⟩ f w2 := fun hf => load_ptr hBq (by rw [List.getElem?_append_left (by simp; omega), ptrs_get, hold]; rfl) hf
    rw [hp]
    simp only [NN_mk, Int.toNat_natCast, add_mk, Nat.zero_add]
    refine Req_iff.2 ⟨by omega, cellq ?_⟩
    simp only [NN_mk]
    refine load_int (i := 0) (h2.nodes old hoD) rfl ?_
    by_cases hv : (s old).v = value
    · rw [show ((s old).v == value) = true by rw [beq_iff_eq]; exact hv, BIf_true]
      refine Req_iff.2 ⟨by omega, cellq ?_⟩
      exact hk1 old hold hv w2 f2
    · rw [show ((s old).v == value) = false by rw [beq_eq_false_iff_ne]; exact hv, BIf_false]
      exact hk2 (fun c hc => by rw [hold] at hc; cases hc; exact hv) w2 f2
/-- orderedTree.get. -/
theorem F99_spec {e : Dtn} (h : RM w base tb num dm pp pl pc D s) (hi : RIn tb B dm tb D s) (he : DtOk w e) (hd1 : 1 ≤ dm) (hdm : dm < 900) (hB : B < 90000)
    (hk : ∀ w', Fr (fun _ => False) w w' → k (rdE ((getON dm (absN dm s tb) (kyD e dm 1)).getD none)) w') :
    F99 k (some ⟨tb, 0, none⟩) e.v w := by
  unfold F99
  rw [NN_mk]
  refine load_slice (i := 0) h.top rfl ?_
  refine F99_L1_rule (I := fun ot en op ol oc i w0 => ∃ m x, ot = some ⟨tb, 0, none⟩ ∧ en = e.v ∧ op = (s x).p ∧ ol = (s x).kids.length ∧ oc = (s x).c ∧ m + 1 ≤ dm ∧ i = ((dm - m : Nat) : Int) ∧ RM w0 base tb num dm pp pl pc D s ∧ RIn tb B (m + 1) x D s ∧ DtOk w0 e ∧
      ∀ w', Fr (fun _ => False) w0 w' → k (rdE ((getON (m + 1) (absN (m + 1) s x) (kyD e (m + 1) (dm - m))).getD none)) w')
    (μ := fun ot en op ol oc i w0 => (dm + 1 - i : Int).toNat) ?_ ⟨dm - 1, tb, rfl, rfl, rfl, rfl, rfl, by omega, by rw [show dm - (dm - 1) = 1 by omega]; rfl, h, by rw [show dm - 1 + 1 = dm by omega]; exact hi, he, by rw [show dm - 1 + 1 = dm by omega, show dm - (dm - 1) = 1 by omega]; exact hk⟩
  rintro _ _ _ _ _ _ w0 ⟨m, x, rfl, rfl, rfl, rfl, rfl, hm, rfl, h, hi, he, hk⟩
  unfold F99_L1
  simp only [NN_mk, add_mk, Nat.zero_add]
  refine load_int (i := 2) h.top rfl ?_
  rw [decide_eq_true (show ((dm - m : Nat) : Int) ≤ ((dm : Nat) : Int) by omega), BIf_true]
  refine val_intro he (by omega) fun w1 f1 => ?_
  have h1 := h.fr0 f1
  have hkl : (s x).kids.length < 100000 := by have := hi.b2 x List.mem_cons_self; omega
  have hsr := sr_keys hi.sr
  have hsv : (lvl m s (s x).kids).Pairwise (fun p q => p.1 < q.1) := hi.sr.1
  refine F109_call (F109_spec h1 hi.hx hsr hkl (fun c a1 a2 w2 f2 => back_pi ?_) fun a1 w2 f2 => back_pi ?_)
  · rw [show (some (⟨c, 0, none⟩ : Addr)).isNone = false from rfl, BIf_false]
    have f02 := f1.trans f2 fun _ h => h.elim
    have h2 := h1.fr0 f2
    have hcm : c ∈ (s x).kids := List.mem_of_getElem? a1
    have hcD := h.kd x hi.hx c hcm
    have hg : getON (m + 1) (absN (m + 1) s x) (kyD e (m + 1) (dm - m)) = getON m (absN m s c) (kyD e m (dm - m + 1)) := get_found hsv a1 a2
    refine load_int (i := 2) h2.top rfl ?_
    cases m with
    | zero =>
      rw [show (((dm - 0 : Nat) : Int) == ((dm : Nat) : Int)) = true from beq_self_eq_true _, BIf_true]
      simp only [NN_mk, add_mk, Nat.zero_add]
      refine load_any (i := 1) (h2.nodes c hcD) rfl ?_
      have := hk w2 f02
      rw [hg] at this
      exact this
    | succ m =>
      rw [show (((dm - (m + 1) : Nat) : Int) == ((dm : Nat) : Int)) = false by rw [beq_eq_false_iff_ne]; omega, BIf_false]
      simp only [NN_mk, add_mk, Nat.zero_add]
      refine load_slice (i := 2) (h2.nodes c hcD) rfl ?_
      have hadd : addI .u64 ((dm - (m + 1) : Nat) : Int) 1 = ((dm - m : Nat) : Int) := by rw [addI_u64 (by omega) (by omega)]; omega
      rw [hadd]
      refine ⟨⟨m, c, by trivial, by trivial, by trivial, by trivial, by trivial, by omega, by trivial, h2, RIn.found h.kd hi hcm, he.fr0 f02, fun w' f' => ?_⟩, by omega⟩
      have := hk w' (f02.trans f' fun _ h => h.elim)
      rw [hg, show dm - (m + 1) + 1 = dm - m by omega] at this
      exact this
  · rw [show (none : Option Addr).isNone = true from rfl, BIf_true]
    have := hk w2 (f1.trans f2 fun _ h => h.elim)
    have hg : getON (m + 1) (absN (m + 1) s x) (kyD e (m + 1) (dm - m)) = none := get_not hsv a1
    rw [hg] at this
    exact this
end
section
variable {w : World} {k : Value → W} {base tb dm B : Nat} {L : ON (Option Dtn) dm}
theorem thereR {D : List Nat} {s : RSt} (h1 : Kd tb D s) (hd1 : 1 ≤ dm) {ky : List Int} {o : Option Dtn} (hg : getON dm (absN dm s tb) ky = some o) : ∃ b ∈ D, (s b).e = o := by
  have : ∀ (m : Nat) (x0 : Nat) (ky : List Int) (o : Option Dtn), (x0 = tb ∨ x0 ∈ D) → (m = 0 → x0 ∈ D) → getON m (absN m s x0) ky = some o → ∃ b ∈ D, (s b).e = o := fun m => by
    induction m with
    | zero =>
      intro x0 ky o hx0 hm hg
      have hg : some (s x0).e = some o := hg
      exact ⟨x0, hm rfl, by injection hg⟩
    | succ m ih =>
      intro x0 ky o hx0 _ hg
      cases ky with
      | nil => cases hg
      | cons v vs =>
        have hg : (lkp v (lvl m s (s x0).kids)).bind (fun y => getON m y vs) = some o := hg
        obtain ⟨y, hy, hg⟩ := Option.bind_eq_some_iff.1 hg
        have hmem : ∀ (l : List (Int × ON (Option Dtn) m)), lkp v l = some y → ∃ p ∈ l, p.2 = y := fun l => by
          induction l with
          | nil => intro h; cases h
          | cons p l ih =>
            intro h
            unfold lkp at h
            split at h
            · injection h with h; exact ⟨p, List.mem_cons_self, h⟩
            · obtain ⟨q, hq, e⟩ := ih h; exact ⟨q, List.mem_cons_of_mem _ hq, e⟩
        obtain ⟨p, hp, rfl⟩ := hmem _ hy
        obtain ⟨c, hc, rfl⟩ := List.mem_map.1 hp
        have hcD := h1 x0 hx0 c hc
        exact ih c vs o (.inr hcD) (fun _ => hcD) hg
  exact this dm tb _ _ (.inl rfl) (fun h => by omega) hg
theorem get1R {e : Dtn} (h : TrR w base tb dm B L) (he : DtOk w e) (hd1 : 1 ≤ dm) (hdm : dm < 900) (hB : B < 90000)
    (hk : ∀ w', TrR w' base tb dm B L → (∀ x, oldE dm L e = some x → DtOk w' x) → FX base tsD w w' → k (rdE (oldE dm L e)) w') : F99 k (some ⟨tb, 0, none⟩) e.v w := by
  have h0 := h
  obtain ⟨D, s, pp, pl, pc, h1, h2, h3, h4, h5⟩ := h
  refine F99_spec h1 h2 he hd1 hdm hB fun w' f' => ?_
  rw [h3]
  refine hk w' (h0.fr0 f') (fun x hx => ?_) (.of0 f')
  obtain ⟨b, hb, hbe⟩ := thereR h1.kd hd1 (by rw [h3]; exact old_some hx)
  exact (h1.ok b hb x hbe).fr0 f'
/-- Get. -/
theorem F90_spec {ys : List Dtn} {p : Option Addr} {c : Nat} (h : TrR w base tb dm B L) (O : Own w 76 p ys.length c (ys.map Dtn.v)) (ok : ∀ y ∈ ys, DtOk w y) (hd1 : 1 ≤ dm) (hdm : dm < 900) (hB : B < 90000) (hl : ys.length < 90000)
    (hk : ∀ w' p' c', TrR w' base tb dm B L → Own w' 76 p' ys.length c' ((ys.map (oldE dm L)).map rdE) → (∀ o ∈ ys.map (oldE dm L), ∀ x, o = some x → DtOk w' x) → FX base tsD w w' → k (.slice p' ys.length c') w') :
    F90 k (some ⟨tb, 0, none⟩) p ys.length c w := by
  unfold F90
  obtain ⟨ie, g1, g2, g3, g4⟩ := inf153
  refine make_intro 0 ys.length und144 g1 g2 g3 rfl (by omega) (by omega) (Nat.zero_le _) fun w1 f1 o1 b1 z1 => ?_
  refine F90_L1_rule (I := fun ot op ol oc sp sl sc n i w' => ot = some ⟨tb, 0, none⟩ ∧ sp = p ∧ sl = ys.length ∧ sc = c ∧ n = ((ys.length : Nat) : Int) ∧ ∃ t : Nat, i = ((t : Nat) : Int) ∧ t ≤ ys.length ∧ ol = t ∧ TrR w' base tb dm B L ∧ Own w' 76 op t oc (((ys.take t).map (oldE dm L)).map rdE) ∧ (∀ b, bl op b → w.heap.size ≤ b) ∧ (∀ o ∈ (ys.take t).map (oldE dm L), ∀ x, o = some x → DtOk w' x) ∧ Own w' 76 p ys.length c (ys.map Dtn.v) ∧ (∀ y ∈ ys, DtOk w' y) ∧ FX base tsD w w')
    (μ := fun ot op ol oc sp sl sc n i w' => ys.length - i.toNat) ?_ ⟨rfl, rfl, rfl, rfl, rfl, 0, rfl, Nat.zero_le _, rfl, h.fr0 f1, o1, (fun b hb => by have := bl_q.1 hb; omega), (fun o ho => by cases ho), O.fr f1 fun _ _ => id, fun y hy => (ok y hy).fr0 f1, .of0 f1⟩
  rintro ot op ol oc sp sl sc n i w2 ⟨e1, e2, e3, e4, rfl, t, rfl, ht, e5, h2, o2, hop, ok2, O2, oky, f2⟩
  obtain rfl := e2.symm
  obtain rfl := e4.symm
  unfold F90_L1
  rw [e1, e3, e5]
  by_cases hlt : t < ys.length
  · rw [decide_eq_true (show ((t : Nat) : Int) < ((ys.length : Nat) : Int) by omega), BIf_true]
    have hy : ys[t]? = some ys[t] := List.getElem?_eq_getElem hlt
    have hmem : ys[t] ∈ ys := List.getElem_mem hlt
    generalize ys[t] = y at hy hmem
    obtain ⟨q2, rest2, hp, hB2, _, _⟩ := O2.get (by omega)
    have hsn : (ys.take (t + 1)).map (oldE dm L) = (ys.take t).map (oldE dm L) ++ [oldE dm L y] := by rw [take_snoc hy, List.map_append]; rfl
    rw [hp, NN_mk, Req_iff, Int.toNat_natCast, add_mk, Nat.zero_add]
    refine ⟨by omega, load_any (v := y.v) hB2 (by rw [List.getElem?_append_left (by simpa using hlt), List.getElem?_map, hy]; rfl) ?_⟩
    refine F99_call (get1R h2 (oky y hmem) hd1 hdm hB fun w3 h3 hx3 f3 => back_any ?_)
    have o3 := f3.own o2 (by decide)
    have O3 := f3.own O2 (by decide)
    generalize hos : (ys.take t).map (oldE dm L) = os at o3 ok2 hsn
    generalize hoo : oldE dm L y = o at hx3 hsn
    have hlen : os.length = t := by rw [← hos, List.length_map, List.length_take]; omega
    refine append1 und144 g1 g2 g3 rfl g4 o3 (rdE_one' _) (rdE_cells _) (by omega) fun p' c' w4 f4 o4 hp4 z4 => ?_
    have T4 : Tys (fun b => bl op b) w3 [76] := fun b u us hb hu => by
      obtain ⟨us', h'⟩ := o3.blk hb
      rw [(hu.unique h').1]; decide
    have nT : ∀ b u us, bl op b → Blk w3 b u us → u ≠ 2 := fun b u us hb hu e => by
      have := T4 b u us hb hu
      rw [e] at this; simp at this
    have z2 := f2.size
    have z3 := f3.size
    rw [addI_i64 (by omega) (by omega), show ((t : Nat) : Int) + 1 = ((t + 1 : Nat) : Int) by omega]
    refine ⟨⟨by trivial, by trivial, by trivial, by trivial, by trivial, t + 1, by trivial, hlt, by trivial, h3.fr f4 T4 (by decide), ?_, fun b hb => ?_, ?_, ?_, fun y hy => (f3.dt (oky y hy) (by decide)).fr f4 nT, (f2.trans f3).new f4 hop⟩, by show ys.length - ((t + 1 : Nat) : Int).toNat < ys.length - ((t : Nat) : Int).toNat; omega⟩
    · rw [hsn, List.map_append]; exact o4
    · rcases hp4 b hb with h | h
      · exact hop b h
      · omega
    · rw [hsn]
      intro o' ho' x hx
      rcases List.mem_append.1 ho' with h | h
      · exact (f3.dt (ok2 o' h x hx) (by decide)).fr f4 nT
      · rw [List.mem_singleton] at h; rw [h] at hx
        exact (hx3 x hx).fr f4 nT
    · rw [← hp]; exact O3.fr f4 fun b hb hb' => by have := O.lt hb; have := hop b hb'; omega
  · rw [decide_eq_false (show ¬ ((t : Nat) : Int) < ((ys.length : Nat) : Int) by omega), BIf_false]
    have : t = ys.length := by omega
    subst this
    rw [List.take_length] at o2 ok2
    exact hk w2 _ _ h2 o2 ok2 f2
end
end Go.Proofs.YtfokodpnoiilbaaGreat.E
