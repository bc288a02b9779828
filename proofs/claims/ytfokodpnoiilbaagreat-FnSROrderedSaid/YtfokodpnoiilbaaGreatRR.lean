/-
  Range trees, plain: levels of sorted lists; keys; what they hold az one sorted list.
-/
import Derived.Test.YtfokodpnoiilbaaGreatFnsF
import Derived.Test.YtfokodpnoiilbaaGreatRec
import Derived.Test.YtfokodpnoiilbaaGreatLists
import Derived.Test.YtfokodpnoiilbaaGreatArith
import Derived.Test.YtfokodpnoiilbaaGreatBits
import Derived.Shelf.Abstract
import Derived.Test.YtfokodpnoiilbaaGreatFnsH
import Derived.Test.YtfokodpnoiilbaaGreatFnsD
import Derived.Test.YtfokodpnoiilbaaGreatS9
namespace Go.Proofs.YtfokodpnoiilbaaGreat.E
set_option linter.unusedSimpArgs false
set_option linter.unusedVariables false

/-- A tree of some levels. -/
@[reducible] def ON (α : Type) : Nat → Type
  | 0 => α
  | n + 1 => List (Int × ON α n)
section
variable {α : Type}
def newON : (n : Nat) → List Int → α → ON α n
  | 0, _, e => e
  | n + 1, [], e => ([] : List (Int × ON α n))
  | n + 1, v :: vs, e => ([(v, newON n vs e)] : List (Int × ON α n))
/-- A key is put into a sorted list: what was there is turned, or something new. -/
def insL {β : Type} (v : Int) (f : β → β) (x0 : β) : List (Int × β) → List (Int × β)
  | [] => [(v, x0)]
  | p :: L => if p.1 < v then p :: insL v f x0 L else if p.1 = v then (v, f p.2) :: L else (v, x0) :: p :: L
def addON : (n : Nat) → ON α n → List Int → α → ON α n
  | 0, _, _, e => e
  | n + 1, L, [], e => L
  | n + 1, L, v :: vs, e => insL v (fun x => addON n x vs e) (newON n vs e) (L : List (Int × ON α n))
def lkp {β : Type} (v : Int) : List (Int × β) → Option β
  | [] => none
  | p :: L => if p.1 = v then some p.2 else lkp v L
def getON : (n : Nat) → ON α n → List Int → Option α
  | 0, e, _ => some e
  | n + 1, L, [] => none
  | n + 1, L, v :: vs => (lkp v (L : List (Int × ON α n))).bind fun x => getON n x vs
def fltK : (n : Nat) → ON α n → List (List Int × α)
  | 0, e => [([], e)]
  | n + 1, L => (L : List (Int × ON α n)).flatMap fun p => (fltK n p.2).map fun q => (p.1 :: q.1, q.2)
/-- Sorted at each level. -/
def SrtN : (n : Nat) → ON α n → Prop
  | 0, _ => True
  | n + 1, L => List.Pairwise (fun p q : Int × ON α n => p.1 < q.1) L ∧ ∀ p ∈ (show List (Int × ON α n) from L), SrtN n p.2
theorem srt_new : ∀ (n : Nat) (k : List Int) (e : α), SrtN n (newON n k e)
  | 0, _, _ => trivial
  | n + 1, [], _ => ⟨List.Pairwise.nil, fun p hp => by cases hp⟩
  | n + 1, v :: vs, e => ⟨List.pairwise_singleton _ _, fun p hp => by
    have : p = (v, newON n vs e) := by simpa [newON] using hp
    rw [this]; exact srt_new n vs e⟩
theorem mem_insL {β : Type} {v : Int} {f : β → β} {x0 : β} : ∀ {L : List (Int × β)} {q : Int × β}, q ∈ insL v f x0 L → q ∈ L ∨ (q.1 = v ∧ (q.2 = x0 ∨ ∃ p ∈ L, p.1 = v ∧ q.2 = f p.2))
  | [], q, h => by
    have : q = (v, x0) := by simpa [insL] using h
    rw [this]; exact .inr ⟨rfl, .inl rfl⟩
  | p :: L, q, h => by
    unfold insL at h
    split at h
    · rcases List.mem_cons.1 h with rfl | h
      · exact .inl List.mem_cons_self
      · rcases mem_insL h with h | ⟨h1, h2 | ⟨p', h3, h4⟩⟩
        · exact .inl (List.mem_cons_of_mem _ h)
        · exact .inr ⟨h1, .inl h2⟩
        · exact .inr ⟨h1, .inr ⟨p', List.mem_cons_of_mem _ h3, h4⟩⟩
    · split at h
      · rename_i h1 h2
        rcases List.mem_cons.1 h with rfl | h
        · exact .inr ⟨rfl, .inr ⟨p, List.mem_cons_self, h2, rfl⟩⟩
        · exact .inl (List.mem_cons_of_mem _ h)
      · rcases List.mem_cons.1 h with rfl | h
        · exact .inr ⟨rfl, .inl rfl⟩
        · exact .inl h
theorem insL_sorted {β : Type} {v : Int} {f : β → β} {x0 : β} : ∀ {L : List (Int × β)}, L.Pairwise (fun p q => p.1 < q.1) → (insL v f x0 L).Pairwise (fun p q => p.1 < q.1)
  | [], _ => List.pairwise_singleton _ _
  | p :: L, h => by
    obtain ⟨h1, h2⟩ := List.pairwise_cons.1 h
    unfold insL
    split
    · rename_i hlt
      refine List.pairwise_cons.2 ⟨fun q hq => ?_, insL_sorted h2⟩
      rcases mem_insL hq with hq | ⟨e, _⟩
      · exact h1 q hq
      · omega
    · split
      · rename_i e
        refine List.pairwise_cons.2 ⟨fun q hq => ?_, h2⟩
        have := h1 q hq
        show v < q.1
        omega
      · refine List.pairwise_cons.2 ⟨fun q hq => ?_, h⟩
        show v < q.1
        rcases List.mem_cons.1 hq with rfl | hq
        · omega
        · have := h1 q hq; omega
theorem srt_add : ∀ (n : Nat) (L : ON α n) (k : List Int) (e : α), SrtN n L → SrtN n (addON n L k e)
  | 0, _, _, _, _ => trivial
  | n + 1, L, [], e, h => h
  | n + 1, L, v :: vs, e, ⟨h1, h2⟩ => by
    refine ⟨insL_sorted h1, fun p hp => ?_⟩
    rcases mem_insL hp with hp | ⟨_, h | ⟨q, hq, _, h⟩⟩
    · exact h2 p hp
    · rw [h]; exact srt_new n vs e
    · rw [h]; exact srt_add n q.2 vs e (h2 q hq)
theorem lkp_gt {β : Type} {v : Int} : ∀ {L : List (Int × β)}, (∀ p ∈ L, v < p.1) → lkp v L = none
  | [], _ => rfl
  | p :: L, h => by
    have := h p List.mem_cons_self
    unfold lkp
    rw [if_neg (by omega)]
    exact lkp_gt fun q hq => h q (List.mem_cons_of_mem _ hq)
theorem lkp_insL {β : Type} {v u : Int} {f : β → β} {x0 : β} : ∀ {L : List (Int × β)}, L.Pairwise (fun p q => p.1 < q.1) → lkp u (insL v f x0 L) = if u = v then some (match lkp v L with | some x => f x | none => x0) else lkp u L
  | [], _ => by
    unfold insL lkp
    by_cases e : u = v
    · subst e; simp [lkp]
    · rw [if_neg (fun h => e h.symm), if_neg e]; rfl
  | p :: L, h => by
    obtain ⟨h1, h2⟩ := List.pairwise_cons.1 h
    have ih := lkp_insL (v := v) (u := u) (f := f) (x0 := x0) h2
    unfold insL
    split
    · rename_i hlt
      have e1 : lkp v (p :: L) = lkp v L := by show (if p.1 = v then _ else _) = _; rw [if_neg (by omega)]
      show (if p.1 = u then some p.2 else lkp u (insL v f x0 L)) = _
      rw [ih, e1]
      by_cases e : p.1 = u
      · rw [if_pos e, if_neg (by omega)]
        show _ = (if p.1 = u then some p.2 else _)
        rw [if_pos e]
      · rw [if_neg e]
        show _ = if u = v then _ else (if p.1 = u then _ else lkp u L)
        rw [if_neg e]
    · split
      · rename_i e2
        have e1 : lkp v (p :: L) = some p.2 := by show (if p.1 = v then _ else _) = _; rw [if_pos e2]
        rw [e1]
        show (if v = u then some (f p.2) else lkp u L) = if u = v then some (f p.2) else (if p.1 = u then some p.2 else lkp u L)
        by_cases e : u = v
        · rw [if_pos e.symm, if_pos e]
        · rw [if_neg (fun h => e h.symm), if_neg e, if_neg (by omega)]
      · rename_i a1 a2
        have e1 : lkp v (p :: L) = none := lkp_gt fun q hq => by
          rcases List.mem_cons.1 hq with rfl | hq
          · omega
          · have := h1 q hq; omega
        rw [e1]
        show (if v = u then some x0 else lkp u (p :: L)) = if u = v then some x0 else lkp u (p :: L)
        by_cases e : u = v
        · rw [if_pos e.symm, if_pos e]
        · rw [if_neg (fun h => e h.symm), if_neg e]
theorem get_new : ∀ (n : Nat) (k k' : List Int) (e : α), k.length = n → k'.length = n → getON n (newON n k e) k' = if k' = k then some e else none
  | 0, [], [], e, _, _ => rfl
  | n + 1, v :: vs, u :: us, e, h, h' => by
    have ih := get_new n vs us e (by simpa using h) (by simpa using h')
    show (if v = u then some (newON n vs e) else none).bind _ = _
    by_cases hv : v = u
    · subst hv
      rw [if_pos rfl]
      show getON n (newON n vs e) us = _
      rw [ih]
      by_cases hu : us = vs
      · rw [if_pos hu, if_pos (by rw [hu])]
      · rw [if_neg hu, if_neg (fun h => hu (by injection h))]
    · rw [if_neg hv, if_neg (fun h => hv (by injection h with h1 _; exact h1.symm))]; rfl
/-- What a tree holds behind an addition. -/
theorem get_add : ∀ (n : Nat) (L : ON α n) (k k' : List Int) (e : α), SrtN n L → k.length = n → k'.length = n → getON n (addON n L k e) k' = if k' = k then some e else getON n L k'
  | 0, x, [], [], e, _, _, _ => rfl
  | n + 1, L, v :: vs, u :: us, e, ⟨h1, h2⟩, h, h' => by
    have hl : vs.length = n := by simpa using h
    have hl' : us.length = n := by simpa using h'
    show (lkp u (insL v (fun x => addON n x vs e) (newON n vs e) L)).bind _ = _
    rw [lkp_insL h1]
    by_cases hv : u = v
    · subst hv
      rw [if_pos rfl]
      show getON n _ us = if u :: us = u :: vs then some e else (lkp u L).bind fun x => getON n x us
      cases hk : lkp u (L : List (Int × ON α n)) with
      | none =>
        show getON n (newON n vs e) us = if u :: us = u :: vs then some e else none
        rw [get_new n vs us e hl hl']
        by_cases hu : us = vs
        · rw [if_pos hu, if_pos (by rw [hu])]
        · rw [if_neg hu, if_neg (fun h => hu (by injection h))]
      | some x =>
        have hx : SrtN n x := by
          have : ∀ {L : List (Int × ON α n)}, (∀ p ∈ L, SrtN n p.2) → lkp u L = some x → SrtN n x := fun {L} => by
            induction L with
            | nil => intro _ h; cases h
            | cons p L ih =>
              intro hs h
              unfold lkp at h
              split at h
              · injection h with h; rw [← h]; exact hs p List.mem_cons_self
              · exact ih (fun q hq => hs q (List.mem_cons_of_mem _ hq)) h
          exact this h2 hk
        show getON n (addON n x vs e) us = if u :: us = u :: vs then some e else getON n x us
        rw [get_add n x vs us e hx hl hl']
        by_cases hu : us = vs
        · rw [if_pos hu, if_pos (by rw [hu])]
        · rw [if_neg hu, if_neg (fun h => hu (by injection h))]
    · rw [if_neg hv, if_neg (fun h => hv (by injection h))]; rfl
/-! ## As one sorted list -/
def ltk : List Int → List Int → Prop
  | [], [] => False
  | [], _ :: _ => True
  | _ :: _, [] => False
  | a :: az, b :: bs => a < b ∨ (a = b ∧ ltk az bs)
theorem ltk_irrefl : ∀ a : List Int, ¬ ltk a a
  | [] => id
  | a :: az => fun h => by
    rcases h with h | ⟨_, h⟩
    · omega
    · exact ltk_irrefl az h
theorem ltk_trans : ∀ {a b c : List Int}, ltk a b → ltk b c → ltk a c
  | [], [], _, h, _ => h.elim
  | [], _ :: _, [], _, h => h.elim
  | [], _ :: _, _ :: _, _, _ => trivial
  | _ :: _, [], _, h, _ => h.elim
  | _ :: _, _ :: _, [], _, h => h.elim
  | a :: az, b :: bs, c :: cs, h, h' => by
    rcases h with h | ⟨rfl, h⟩ <;> rcases h' with h' | ⟨rfl, h'⟩
    · exact .inl (by omega)
    · exact .inl h
    · exact .inl h'
    · exact .inr ⟨rfl, ltk_trans h h'⟩
theorem ltk_tri : ∀ (a b : List Int), a.length = b.length → ltk a b ∨ a = b ∨ ltk b a
  | [], [], _ => .inr (.inl rfl)
  | a :: az, b :: bs, h => by
    rcases Int.lt_trichotomy a b with h1 | rfl | h1
    · exact .inl (.inl h1)
    · rcases ltk_tri az bs (by simpa using h) with h2 | rfl | h2
      · exact .inl (.inr ⟨rfl, h2⟩)
      · exact .inr (.inl rfl)
      · exact .inr (.inr (.inr ⟨rfl, h2⟩))
    · exact .inr (.inr (.inl h1))
def SrtK {β : Type} (l : List (List Int × β)) : Prop := l.Pairwise fun p q => ltk p.1 q.1
theorem srtk_uniq {β : Type} : ∀ {a b : List (List Int × β)}, SrtK a → SrtK b → (∀ p, p ∈ a ↔ p ∈ b) → a = b
  | [], [], _, _, _ => rfl
  | [], q :: b, _, _, h => by have := (h q).2 List.mem_cons_self; cases this
  | p :: a, [], _, _, h => by have := (h p).1 List.mem_cons_self; cases this
  | p :: a, q :: b, ha, hb, h => by
    obtain ⟨a1, a2⟩ := List.pairwise_cons.1 ha
    obtain ⟨b1, b2⟩ := List.pairwise_cons.1 hb
    have e : p = q := by
      rcases List.mem_cons.1 ((h p).1 List.mem_cons_self) with e | hp
      · exact e
      · rcases List.mem_cons.1 ((h q).2 List.mem_cons_self) with e | hq
        · exact e.symm
        · exact absurd (ltk_trans (a1 q hq) (b1 p hp)) (ltk_irrefl _)
    subst e
    rw [srtk_uniq a2 b2 fun r => ?_]
    constructor
    · intro hr
      rcases List.mem_cons.1 ((h r).1 (List.mem_cons_of_mem _ hr)) with rfl | hr'
      · exact absurd (a1 _ hr) (ltk_irrefl _)
      · exact hr'
    · intro hr
      rcases List.mem_cons.1 ((h r).2 (List.mem_cons_of_mem _ hr)) with rfl | hr'
      · exact absurd (b1 _ hr) (ltk_irrefl _)
      · exact hr'
theorem lkp_mem {β : Type} {v : Int} {x : β} : ∀ {L : List (Int × β)}, L.Pairwise (fun p q => p.1 < q.1) → (lkp v L = some x ↔ (v, x) ∈ L)
  | [], _ => by simp [lkp]
  | p :: L, h => by
    obtain ⟨h1, h2⟩ := List.pairwise_cons.1 h
    unfold lkp
    by_cases e : p.1 = v
    · rw [if_pos e]
      constructor
      · intro hx
        injection hx with hx
        rw [← e, ← hx]; exact List.mem_cons_self
      · intro hx
        rcases List.mem_cons.1 hx with hx | hx
        · rw [← hx]
        · have := h1 _ hx
          have : p.1 < v := this
          omega
    · rw [if_neg e, lkp_mem h2, List.mem_cons]
      constructor
      · exact .inr
      · rintro (hx | hx)
        · rw [← hx] at e; exact absurd rfl e
        · exact hx
theorem fltK_mem : ∀ (n : Nat) (L : ON α n) (k : List Int) (e : α), SrtN n L → ((k, e) ∈ fltK n L ↔ k.length = n ∧ getON n L k = some e)
  | 0, x, k, e, _ => by
    show (k, e) ∈ [([], x)] ↔ _
    rw [List.mem_singleton]
    constructor
    · intro h
      injection h with h1 h2
      exact ⟨by rw [h1]; rfl, by rw [h2]; rfl⟩
    · rintro ⟨h1, h2⟩
      have h2 : some x = some e := h2
      injection h2 with h2
      rw [List.length_eq_zero_iff.1 h1, h2]
  | n + 1, L, k, e, ⟨h1, h2⟩ => by
    have hf : (k, e) ∈ fltK (n + 1) L ↔ ∃ p ∈ (L : List (Int × ON α n)), ∃ q ∈ fltK n p.2, (p.1 :: q.1, q.2) = (k, e) := by
      show (k, e) ∈ List.flatMap _ _ ↔ _
      simp only [List.mem_flatMap, List.mem_map]
    rw [hf]
    constructor
    · rintro ⟨p, hp, q, hq, he⟩
      injection he with e1 e2
      obtain ⟨g1, g2⟩ := (fltK_mem n p.2 q.1 q.2 (h2 p hp)).1 hq
      refine ⟨by rw [← e1, List.length_cons, g1], ?_⟩
      rw [← e1]
      show (lkp p.1 L).bind _ = _
      rw [(lkp_mem h1).2 hp]
      show getON n p.2 q.1 = some e
      rw [← e2]; exact g2
    · rintro ⟨g1, g2⟩
      match k, g1 with
      | v :: vs, g1 =>
        have g2 : (lkp v (L : List (Int × ON α n))).bind (fun x => getON n x vs) = some e := g2
        obtain ⟨x, hx, hg⟩ := Option.bind_eq_some_iff.1 g2
        have hm := (lkp_mem h1).1 hx
        exact ⟨(v, x), hm, (vs, e), (fltK_mem n x vs e (h2 _ hm)).2 ⟨by simpa using g1, hg⟩, rfl⟩
theorem fltK_sorted : ∀ (n : Nat) (L : ON α n), SrtN n L → SrtK (fltK n L)
  | 0, x, _ => List.pairwise_singleton _ _
  | n + 1, L, ⟨h1, h2⟩ => by
    have : ∀ {L : List (Int × ON α n)}, L.Pairwise (fun p q => p.1 < q.1) → (∀ p ∈ L, SrtN n p.2) → SrtK (L.flatMap fun p => (fltK n p.2).map fun q => (p.1 :: q.1, q.2)) := fun {L} => by
      induction L with
      | nil => intro _ _; exact List.Pairwise.nil
      | cons p L ih =>
        intro h1 h2
        obtain ⟨a1, a2⟩ := List.pairwise_cons.1 h1
        rw [List.flatMap_cons]
        refine List.pairwise_append.2 ⟨?_, ih a2 fun q hq => h2 q (List.mem_cons_of_mem _ hq), fun x hx y hy => ?_⟩
        · rw [List.pairwise_map]
          exact (fltK_sorted n p.2 (h2 p List.mem_cons_self)).imp fun h => .inr ⟨rfl, h⟩
        · obtain ⟨q, _, rfl⟩ := List.mem_map.1 hx
          obtain ⟨r, hr, hy⟩ := List.mem_flatMap.1 hy
          obtain ⟨s, _, rfl⟩ := List.mem_map.1 hy
          exact .inl (a1 r hr)
    exact this h1 h2
end
end Go.Proofs.YtfokodpnoiilbaaGreat.E

namespace Go.Proofs.YtfokodpnoiilbaaGreat.E
open Go
set_option linter.unusedSimpArgs false
set_option linter.unusedVariables false
set_option maxRecDepth 100000
set_option maxHeartbeats 8000000

/-- An entry: its place (and where it is read), its number. -/
structure Dtn where
  p : Option Addr
  c : Nat
  pos : List Int
  val : Int
def Dtn.a (x : Dtn) : Value := .agg #[.slice x.p x.pos.length x.c, .int .i64 x.val]
def Dtn.v (x : Dtn) : Value := .iface 89 x.a
def dtn0 : Dtn := ⟨none, 0, [], 0⟩
def In64K : Rk Int := ⟨2, 1, fun _ g x => g 0 = some (.int .i64 x), [], fun h h0 => by rw [← h 0 (by decide)]; exact h0, fun _ _ h => h⟩
def DtOk (w : World) (x : Dtn) : Prop := Sl In64K w x.p x.pos ∧ x.pos.length < 1000
structure Rd where
  v : Int
  e : Option Dtn
  p : Option Addr
  c : Nat
  kids : List Nat
abbrev RSt := Nat → Rd
def rdE (o : Option Dtn) : Value := (o.map Dtn.v).getD .nilIface
def rdc (n : Rd) : List Value := [.int .i64 n.v, rdE n.e, .slice n.p n.kids.length n.c]
def ptrs (l : List Nat) : List Value := l.map fun b => .pointer (some ⟨b, 0, none⟩)
theorem ptrs_get (l : List Nat) (i : Nat) : (ptrs l)[i]? = l[i]?.map fun b => .pointer (some ⟨b, 0, none⟩) := List.getElem?_map
@[simp] theorem ptrs_length (l : List Nat) : (ptrs l).length = l.length := List.length_map _
theorem ptrs_append (a b : List Nat) : ptrs (a ++ b) = ptrs a ++ ptrs b := List.map_append ..
def upR (s : RSt) (b : Nat) (n : Rd) : RSt := fun x => if x = b then n else s x
theorem upR_same (s : RSt) (b : Nat) (n : Rd) : upR s b n b = n := by simp [upR]
theorem upR_ne {s : RSt} {b : Nat} {n : Rd} {x : Nat} (h : x ≠ b) : upR s b n x = s x := by simp [upR, h]
/-- The tree's own block: its list, how many entries, how many dimensions, a path that is not looked at. -/
def topc (n : Rd) (num dm : Nat) (pp : Option Addr) (pl pc : Nat) : List Value := [.slice n.p n.kids.length n.c, .int .u64 ((num : Nat) : Int), .int .u64 ((dm : Nat) : Int), .slice pp pl pc]
structure RM (w : World) (base tb num dm : Nat) (pp : Option Addr) (pl pc : Nat) (D : List Nat) (s : RSt) : Prop where
  nodes : ∀ b ∈ D, Blk w b 175 (rdc (s b))
  top : Blk w tb 97 (topc (s tb) num dm pp pl pc)
  own : ∀ b, b = tb ∨ b ∈ D → Own w 172 (s b).p (s b).kids.length (s b).c (ptrs (s b).kids)
  dj : ∀ b b', (b = tb ∨ b ∈ D) → (b' = tb ∨ b' ∈ D) → b ≠ b' → ∀ x, bl (s b).p x → ¬ bl (s b').p x
  kd : ∀ b, b = tb ∨ b ∈ D → ∀ c ∈ (s b).kids, c ∈ D
  ok : ∀ b ∈ D, ∀ x, (s b).e = some x → DtOk w x
  lo : ∀ b, b = tb ∨ b ∈ D → base ≤ b ∧ ∀ y, bl (s b).p y → base ≤ y
/-- Where a list lies. -/
def la (tb b : Nat) : Addr := if b = tb then ⟨tb, 0, none⟩ else ⟨b, 2, none⟩
def absN : (n : Nat) → RSt → Nat → ON (Option Dtn) n
  | 0, s, b => (s b).e
  | n + 1, s, b => ((s b).kids.map fun c => ((s c).v, absN n s c) : List (Int × ON (Option Dtn) n))
def rch : (n : Nat) → RSt → Nat → List Nat
  | 0, _, _ => []
  | n + 1, s, b => (s b).kids.flatMap fun c => c :: rch n s c
theorem absN_congr : ∀ (n : Nat) {s s' : RSt} {b : Nat}, s' b = s b → (∀ y ∈ rch n s b, s' y = s y) → absN n s' b = absN n s b ∧ rch n s' b = rch n s b
  | 0, s, s', b, h, _ => ⟨by unfold absN; rw [h], rfl⟩
  | n + 1, s, s', b, h, hr => by
    have one : ∀ c ∈ (s b).kids, s' c = s c ∧ absN n s' c = absN n s c ∧ rch n s' c = rch n s c := fun c hc => by
      have h1 : s' c = s c := hr c (List.mem_flatMap.2 ⟨c, hc, List.mem_cons_self⟩)
      have := absN_congr n (s := s) (s' := s') (b := c) h1 fun y hy => hr y (List.mem_flatMap.2 ⟨c, hc, List.mem_cons_of_mem _ hy⟩)
      exact ⟨h1, this⟩
    constructor
    · show (s' b).kids.map _ = (s b).kids.map _
      rw [h]
      exact List.map_congr_left fun c hc => by rw [(one c hc).1, (one c hc).2.1]
    · show (s' b).kids.flatMap _ = (s b).kids.flatMap _
      rw [h]
      have : ∀ l : List Nat, (∀ c ∈ l, rch n s' c = rch n s c) → l.flatMap (fun c => c :: rch n s' c) = l.flatMap fun c => c :: rch n s c := fun l => by
        induction l with
        | nil => intro _; rfl
        | cons a l ih =>
          intro hl
          rw [List.flatMap_cons, List.flatMap_cons, hl a List.mem_cons_self, ih fun c hc => hl c (List.mem_cons_of_mem _ hc)]
      exact this _ fun c hc => (one c hc).2.2
/-! ## Frames -/
theorem DtOk.fr {w w' : World} {S : Nat → Prop} {x : Dtn} (h : DtOk w x) (f : Fr S w w') (hS : ∀ b u us, S b → Blk w b u us → u ≠ 2) : DtOk w' x := by
  refine ⟨?_, h.2⟩
  rcases h.1 with h | ⟨q, o, us, e, hB, hR⟩
  · exact .inl h
  · exact .inr ⟨q, o, us, e, hB.fr f fun hs => hS _ _ _ hs hB rfl, hR⟩
theorem DtOk.fr0 {w w' : World} {x : Dtn} (h : DtOk w x) (f : Fr (fun _ => False) w w') : DtOk w' x := h.fr f fun _ _ _ h => h.elim
theorem RM.fr {w w' : World} {S : Nat → Prop} {base tb num dm pl pc : Nat} {pp : Option Addr} {D : List Nat} {s : RSt} (h : RM w base tb num dm pp pl pc D s) (f : Fr S w w') (hS : ∀ b u us, S b → Blk w b u us → u ≠ 175 ∧ u ≠ 97 ∧ u ≠ 172 ∧ u ≠ 2) : RM w' base tb num dm pp pl pc D s :=
  ⟨fun b hb => (h.nodes b hb).fr f fun hs => (hS _ _ _ hs (h.nodes b hb)).1 rfl, h.top.fr f fun hs => (hS _ _ _ hs h.top).2.1 rfl, fun b hb => (h.own b hb).fr f fun x hx hs => by
    obtain ⟨us, hu⟩ := (h.own b hb).blk hx
    exact (hS _ _ _ hs hu).2.2.1 rfl, h.dj, h.kd, fun b hb x hx => (h.ok b hb x hx).fr f fun b u us hs hu => (hS b u us hs hu).2.2.2, h.lo⟩
theorem RM.fr0 {w w' : World} {base tb num dm pl pc : Nat} {pp : Option Addr} {D : List Nat} {s : RSt} (h : RM w base tb num dm pp pl pc D s) (f : Fr (fun _ => False) w w') : RM w' base tb num dm pp pl pc D s := h.fr f fun _ _ _ h => h.elim
theorem RM.tbD {w : World} {base tb num dm pl pc : Nat} {pp : Option Addr} {D : List Nat} {s : RSt} (h : RM w base tb num dm pp pl pc D s) : tb ∉ D := fun hb => by
  have := ((h.nodes tb hb).unique h.top).1; simp at this
/-- The list is read. -/
theorem RM.cell {w : World} {base tb num dm pl pc : Nat} {pp : Option Addr} {D : List Nat} {s : RSt} (h : RM w base tb num dm pp pl pc D s) {b : Nat} (hb : b = tb ∨ b ∈ D) {f : Option Addr → Nat → Nat → W} (hk : f (s b).p (s b).kids.length (s b).c w) : LoadT .slice (la tb b) f w := by
  unfold la
  rcases hb with rfl | hb
  · rw [if_pos rfl]
    exact load_slice (i := 0) h.top rfl hk
  · have hne : b ≠ tb := fun e => h.tbD (e ▸ hb)
    rw [if_neg hne]
    exact load_slice (i := 2) (h.nodes b hb) rfl hk
theorem ent138 : ∀ args w, (callFunc 115 args).run Tryz.prog w = .ok (.enter 115 args) w := enters_of Tryz.func115 (by kernel_rfl) rfl
theorem callV_enter {P : Program} {f : FuncId} {args caps : Array Value} {w : World} (h : ∀ args w, (callFunc f args).run P w = .ok (.enter f args) w) :
    (callV (.func (.func f) #[] caps) args).run P w = .ok (.enter f (args ++ caps)) w := by
  have e := h (args ++ caps) w
  simp [callV, Deferred.ofValue, invoke, e]
theorem NextT_enterR {P : Program} {s : Sem Next} {r : RTy} {f : Fn W r.leaves} {g : FuncId} {args : Array Value} {w w' : World} (h : s.run P w = .ok (.enter g args) w') (hk : Calls P g args w' (Back r f)) : NextT P s r f w := by
  unfold NextT; rw [h]; exact hk
/-- How many keys are below one. -/
def lbd (v : Int) : List Int → Nat
  | [] => 0
  | x :: l => if x < v then lbd v l + 1 else 0
theorem lbd_le (v : Int) : ∀ l : List Int, lbd v l ≤ l.length
  | [] => Nat.le_refl _
  | x :: l => by unfold lbd; split <;> simp [lbd_le v l]
theorem lbd_of {v : Int} : ∀ {l : List Int} {a : Nat}, a ≤ l.length → (∀ j x, l[j]? = some x → j < a → x < v) → (∀ j x, l[j]? = some x → a ≤ j → ¬ x < v) → lbd v l = a
  | [], a, ha, _, _ => by have : a = 0 := by simpa using ha
                          rw [this]; rfl
  | x :: l, 0, _, _, h => by
    have := h 0 x rfl (Nat.le_refl _)
    unfold lbd; rw [if_neg this]
  | x :: l, a + 1, ha, h1, h2 => by
    have hx := h1 0 x rfl (Nat.succ_pos _)
    unfold lbd; rw [if_pos hx]
    rw [lbd_of (l := l) (a := a) (by simpa using ha) (fun j y hj hja => h1 (j + 1) y hj (by omega)) fun j y hj hja => h2 (j + 1) y hj (by omega)]
theorem srt_get {l : List Int} (s : l.Pairwise (· < ·)) {i j : Nat} {x y : Int} (hx : l[i]? = some x) (hy : l[j]? = some y) (h : i < j) : x < y := by
  obtain ⟨h1, rfl⟩ := List.getElem?_eq_some_iff.1 hx
  obtain ⟨h2, rfl⟩ := List.getElem?_eq_some_iff.1 hy
  exact List.pairwise_iff_getElem.1 s i j h1 h2 h
section
variable {w : World} {k : Value → W} {base tb num dm pl pc : Nat} {pp : Option Addr} {D : List Nat} {s : RSt} {b : Nat}
theorem shr_half {a b : Nat} (h : a + b < 1000000) : IntKind.wrap .i64 (shrI .u64 (IntKind.wrap .u64 (addI .i64 ((a : Nat) : Int) ((b : Nat) : Int))) 1) = (((a + b) / 2 : Nat) : Int) := by
  rw [addI_i64 (by omega) (by omega), wrap_u64 (by omega) (by omega), show ((a : Nat) : Int) + ((b : Nat) : Int) = ((a + b : Nat) : Int) by omega, shr_nat .u64 (j := 1) (by decide), wrap_i64 (by omega) (by omega)]
/-- The place of a key in a list of nodes. -/
theorem F111_spec {value : Int} (h : RM w base tb num dm pp pl pc D s) (hb : b = tb ∨ b ∈ D) (hs : ((s b).kids.map fun c => (s c).v).Pairwise (· < ·)) (hl : (s b).kids.length < 100000)
    (hk : ∀ w', Fr (fun _ => False) w w' → k (.int .i64 ((lbd value ((s b).kids.map fun c => (s c).v) : Nat) : Int)) w') : F111 k (s b).p (s b).kids.length (s b).c value w := by
  have hO := h.own b hb
  generalize hV : ((s b).kids.map fun c => (s c).v) = V at hs hk
  have hVl : V.length = (s b).kids.length := by rw [← hV, List.length_map]
  unfold F111
  refine new_intro fun n1 w1 e1 b1 f1 z1 => new_intro fun n2 w2 e2 b2 f2 z2 => ?_
  have b12 := b1.fr f2 id
  have f02 := f1.trans f2 fun _ h => h.elim
  refine load_slice (i := 0) b12 rfl ?_
  refine F114_call ?_
  unfold F114
  refine F114_L1_rule (I := fun f i j w' => f = .func (.func 115) #[] #[.pointer (some ⟨n1, 0, none⟩), .pointer (some ⟨n2, 0, none⟩)] ∧ Fr (fun _ => False) w2 w' ∧ ∃ a b : Nat, i = ((a : Nat) : Int) ∧ j = ((b : Nat) : Int) ∧ a ≤ b ∧ b ≤ V.length ∧ (∀ (j : Nat) q, V[j]? = some q → j < a → q < value) ∧ (∀ (j : Nat) q, V[j]? = some q → b ≤ j → ¬ q < value))
    (μ := fun f i j w' => (j - i).toNat) ?_ ⟨rfl, Fr.refl _ _, 0, V.length, rfl, by rw [hVl], Nat.zero_le _, Nat.le_refl _, fun _ _ _ h => by omega, fun j q hj h => by have := (List.getElem?_eq_some_iff.1 hj).1; omega⟩
  rintro _ _ _ w3 ⟨rfl, f3, a, b', rfl, rfl, hab, hb', h1, h2⟩
  unfold F114_L1
  by_cases hlt : a < b'
  · rw [decide_eq_true (show ((a : Nat) : Int) < ((b' : Nat) : Int) by omega), BIf_true]
    refine bind_intro ?_
    rw [shr_half (by omega)]
    generalize hmm : (a + b') / 2 = m at *
    have hma : a ≤ m := by omega
    have hmb : m < b' := by omega
    have hq : V[m]? = some (V[m]'(by omega)) := List.getElem?_eq_getElem (by omega)
    generalize V[m]'(by omega) = q at hq
    refine NextT_enterR (callV_enter ent138) (F115_calls ?_)
    unfold F115
    refine drw_intro fun w4 f4 z4 => ?_
    have f24 := f3.trans f4 fun _ h => h.elim
    have f04 := f02.trans f24 fun _ h => h.elim
    refine load_slice (i := 0) (b12.fr f24 id) rfl ?_
    have h4 := h.fr0 f04
    have hO4 := h4.own b hb
    obtain ⟨qb, rest, hp, hB, _, _⟩ := hO4.get (by omega)
    have hc : (s b).kids[m]? = some ((s b).kids[m]'(by omega)) := List.getElem?_eq_getElem (by omega)
    generalize hcc : (s b).kids[m]'(by omega) = c at hc
    have hcD : c ∈ D := h4.kd b hb c (List.mem_of_getElem? hc)
    have hqc : (s c).v = q := by
      rw [← hV, List.getElem?_map, hc] at hq
      exact Option.some.inj hq
    rw [hp, NN_mk, Req_iff, Int.toNat_natCast, add_mk, Nat.zero_add]
    refine ⟨by omega, load_ptr hB (by rw [List.getElem?_append_left (by simp; omega), ptrs_get, hc]; rfl) ?_⟩
    rw [NN_mk]
    refine load_int (i := 0) (h4.nodes c hcD) rfl (load_int (i := 0) (b2.fr f24 id) rfl (back_bool ?_))
    rw [hqc]
    by_cases hqx : q < value
    · rw [decide_eq_false (show ¬ q ≥ value by omega), Bool.not_false, BIf_true, addI_i64 (by omega) (by omega)]
      refine ⟨⟨rfl, f24, m + 1, b', by omega, rfl, hmb, hb', fun j r hj hjm => ?_, h2⟩, by omega⟩
      by_cases e : j = m
      · rw [e, hq] at hj; cases hj; exact hqx
      · have := srt_get hs hj hq (by omega); omega
    · rw [decide_eq_true (show q ≥ value by omega), Bool.not_true, BIf_false]
      refine ⟨⟨rfl, f24, a, m, rfl, rfl, hma, by omega, h1, fun j r hj hjm => ?_⟩, by omega⟩
      by_cases e : j = m
      · rw [e, hq] at hj; cases hj; exact hqx
      · have := srt_get hs hq hj (by omega); omega
  · rw [decide_eq_false (show ¬ ((a : Nat) : Int) < ((b' : Nat) : Int) by omega), BIf_false]
    have : a = b' := by omega
    subst this
    have e := lbd_of hb' h1 h2
    refine back_int ?_
    rw [← e]
    exact hk w3 (f02.trans f3 fun _ h => h.elim)
end
end Go.Proofs.YtfokodpnoiilbaaGreat.E

namespace Go.Proofs.YtfokodpnoiilbaaGreat.E
open Go
set_option linter.unusedSimpArgs false
set_option linter.unusedVariables false
set_option maxRecDepth 100000
set_option maxHeartbeats 8000000

theorem Own.full {w : World} {e : TypeId} {q l c : Nat} {vs : List Value} (h : Own w e (some ⟨q, 0, none⟩) l c vs) : ∃ rest, Blk w q e (vs ++ rest) ∧ (vs ++ rest).length = c ∧ c ≤ maxLen := by
  rcases h.2 with ⟨h, _⟩ | ⟨q', rest, h', hb, hc, hm⟩
  · cases h
  · cases h'; exact ⟨rest, hb, hc, hm⟩
theorem Own.mk' {w : World} {e : TypeId} {q l c : Nat} {vs rest : List Value} (h : Blk w q e (vs ++ rest)) (hl : vs.length = l) (hc : (vs ++ rest).length = c) (hm : c ≤ maxLen) : Own w e (some ⟨q, 0, none⟩) l c vs :=
  ⟨hl, .inr ⟨q, rest, rfl, h, hc, hm⟩⟩
theorem bl_q {q b : Nat} : bl (some ⟨q, 0, none⟩) b ↔ b = q := ⟨fun ⟨a, h, e⟩ => by cases h; exact e.symm, fun h => ⟨_, rfl, h.symm⟩⟩
theorem shift_in {α : Type} {l : List α} {x y : α} {i : Nat} (hi : i ≤ l.length) :
    (((l ++ [x]).take (i + 1)) ++ l.drop i ++ (l ++ [x]).drop (i + 1 + (l.drop i).length)).set i y = l.take i ++ y :: l.drop i := by
  have e3 : (l ++ [x]).drop (i + 1 + (l.drop i).length) = [] := List.drop_eq_nil_of_le (by simp; omega)
  rw [e3, List.append_nil]
  by_cases h : i < l.length
  · have e1 : (l ++ [x]).take (i + 1) = l.take i ++ [l[i]] := by
      rw [List.take_append_of_le_length (by omega), List.take_add_one, List.getElem?_eq_getElem h]; rfl
    rw [e1, List.append_assoc, List.set_append_right _ _ (by simp; omega), List.length_take]
    rw [show i - min i l.length = 0 by omega]; rfl
  · have : i = l.length := by omega
    subst this
    rw [List.take_of_length_le (by simp), List.drop_length, List.append_nil, List.set_append_right _ _ (by simp), List.take_length]
    simp
theorem sliceAi {q i c : Nat} (h : i < c) : sliceA (some ⟨q, 0, none⟩) i c 1 = some ⟨q, i, none⟩ := by
  unfold sliceA
  rw [if_neg (by omega), Option.map_some, add_mk]; simp
theorem und186 : Tryz.prog.underlying 95 = some (.slice 172) := by kernel_rfl
theorem inf221 : ∃ i, Tryz.prog.info? 172 = some i ∧ i.zero = some (.pointer none) ∧ i.size = 1 ∧ i.bytes ≤ 4096 := ⟨_, rfl, by kernel_rfl, by kernel_rfl, Nat.le_of_ble_eq_true (by kernel_rfl)⟩
theorem ptrs_one (l : List Nat) : ∀ u ∈ ptrs l, u.oneCell' = true := fun u hu => by obtain ⟨x, _, rfl⟩ := List.mem_map.1 hu; rfl
section
variable {k : Value → W} {w : World}
/-- A pointer is put into the middle of a list. -/
theorem mid_put {b t o i l c nb : Nat} {p : Option Addr} {us : List Value} {kids : List Nat} {ty ty2 : TypeId} {cs cs2 : Array Bool} {K : W}
    (hB : Blk w b t us) (ho : o < us.length) (hO : Own w 172 p l c (ptrs kids)) (hbp : ∀ x, bl p x → x ≠ b) (hi : i < l) (hl : l < 100000)
    (hk : ∀ w' p' c', Blk w' b t (us.set o (.slice p' (l + 1) c')) → Own w' 172 p' (l + 1) c' (ptrs (kids.take i ++ nb :: kids.drop i)) → (∀ x, bl p' x → bl p x ∨ w.heap.size ≤ x) → Fr (fun x => x = b ∨ bl p x) w w' → K w') :
    RawT Tryz.prog (Instr.buildSlice 95 1 [(0, .pointer none)].toArray) (.s (.one .slice)) (fun a m d => NextT Tryz.prog (builtin .append #[95, 95] ty cs [.slice p l c, .slice a m d].toArray) (.s (.one .slice)) fun s20p s20l s20c =>
      Store1 ⟨b, o, none⟩ (.slice s20p s20l s20c) <|
      Drw <|
      LoadT .slice ⟨b, o, none⟩ fun s23p s23l s23c =>
      Req (0 ≤ addI .i64 ((i : Nat) : Int) 1 ∧ addI .i64 ((i : Nat) : Int) 1 ≤ ((s23l : Nat) : Int)) <|
      LoadT .slice ⟨b, o, none⟩ fun s25p s25l s25c =>
      Req (0 ≤ ((i : Nat) : Int) ∧ ((i : Nat) : Int) ≤ ((s25l : Nat) : Int)) <|
      NextT Tryz.prog (builtin .copy #[95, 95] ty2 cs2 [.slice (sliceA s23p ((addI .i64 ((i : Nat) : Int) 1).toNat) s23c 1) (s23l - ((addI .i64 ((i : Nat) : Int) 1).toNat)) (s23c - ((addI .i64 ((i : Nat) : Int) 1).toNat)), .slice (sliceA s25p ((i : Nat) : Int).toNat s25c 1) (s25l - ((i : Nat) : Int).toNat) (s25c - ((i : Nat) : Int).toNat)].toArray) (.s (.one (.int .i64))) fun x26 =>
      Chk1 ⟨b, o, none⟩ (.slice s25p s25l s25c) <|
      Chk1 ⟨b, o, none⟩ (.slice s23p s23l s23c) <|
      LoadT .slice ⟨b, o, none⟩ fun s28p s28l s28c =>
      NN s28p fun a29 =>
      Req (0 ≤ ((i : Nat) : Int) ∧ ((i : Nat) : Int) < ((s28l : Nat) : Int)) <|
      Store1 (a29.add ((i : Nat) : Int).toNat) (.pointer (some ⟨nb, 0, none⟩)) K) w := by
  obtain ⟨ie, g1, g2, g3, g4⟩ := inf221
  have h1 := ptrs_one kids
  generalize hvs : ptrs kids = vs at *
  have hvl := hO.1
  have hblt := hB.lt
  refine append1 (P := Tryz.prog) und186 g1 g2 g3 rfl g4 hO (v := .pointer none) rfl rfl (by omega) fun p' c' w1 f1 o1 hp' z1 => ?_
  obtain ⟨q, rest0, rfl, _, _, _⟩ := o1.get (by omega)
  have hq := hp' q ⟨_, rfl, rfl⟩
  have hbq : b ≠ q := by
    rcases hq with h | h
    · exact fun e => hbp q h e.symm
    · omega
  have hB1 := hB.fr f1 fun h => hbp b h rfl
  refine store_intro hB1 ho rfl fun w2 b2 f2 z2 => ?_
  refine drw_intro fun w3 f3 z3 => ?_
  have b3 := b2.fr f3 id
  have o3 := (o1.fr f2 fun x hx => by rw [bl_q.1 hx]; exact Ne.symm hbq).fr f3 fun _ _ => id
  have hu3 : (us.set o (.slice (some ⟨q, 0, none⟩) (l + 1) c'))[o]? = some (.slice (some ⟨q, 0, none⟩) (l + 1) c') := by rw [List.getElem?_set, if_pos rfl, if_pos ho]
  obtain ⟨rest, hq3, hqc, hqm⟩ := o3.full
  have hqc2 : l + 1 + rest.length = c' := by rw [← hqc]; simp; omega
  refine load_slice b3 hu3 ?_
  rw [addI_i64 (by omega) (by omega), show ((i : Nat) : Int) + 1 = ((i + 1 : Nat) : Int) by omega, Int.toNat_natCast, Int.toNat_natCast]
  refine ⟨by omega, ?_⟩
  refine load_slice b3 hu3 ⟨by omega, ?_⟩
  rw [sliceAi (by omega), sliceAi (by omega)]
  refine copy_intro (src := vs.drop i) und186 (by rw [g1, Option.map_some, g3]) hq3 (by rw [List.length_drop]; omega) (fun j u hj => ?_) (by simp; omega) (fun u hu' => h1 u (List.mem_of_mem_drop hu')) fun w4 b4 f4 z4 => ?_
  · rw [add_mk, hq3.cell]
    rw [List.getElem?_drop] at hj
    have := (List.getElem?_eq_some_iff.1 hj).1
    rw [List.append_assoc, List.getElem?_append_left (by omega)]; exact hj
  have hq4 := b3.fr f4 hbq
  refine ⟨by rw [hq4.cell]; exact hu3, ⟨by rw [hq4.cell]; exact hu3, ?_⟩⟩
  refine load_slice hq4 hu3 ?_
  rw [NN_mk, add_mk, Nat.zero_add]
  refine ⟨by omega, ?_⟩
  have e4 : (vs ++ [Value.pointer none] ++ rest).take (i + 1) ++ vs.drop i ++ (vs ++ [Value.pointer none] ++ rest).drop (i + 1 + (vs.drop i).length) = ((vs ++ [Value.pointer none]).take (i + 1) ++ vs.drop i ++ (vs ++ [Value.pointer none]).drop (i + 1 + (vs.drop i).length)) ++ rest := by
    rw [List.take_append_of_le_length (by simp; omega), List.drop_append_of_le_length (by simp; omega)]
    simp only [List.append_assoc]
  rw [e4] at b4
  refine store_intro b4 (by simp; omega) rfl fun w5 b5 f5 z5 => ?_
  rw [List.set_append_left _ _ (by simp; omega), shift_in (by omega)] at b5
  refine hk w5 (some ⟨q, 0, none⟩) c' (hq4.fr f5 hbq) ?_ (fun x hx => hp' x hx) ?_
  · have e : ptrs (kids.take i ++ nb :: kids.drop i) = vs.take i ++ .pointer (some ⟨nb, 0, none⟩) :: vs.drop i := by
      rw [← hvs]; unfold ptrs
      rw [List.map_append, List.map_cons, List.map_take, List.map_drop]
    rw [e]
    exact Own.mk' b5 (by simp; omega) (by simp; omega) hqm
  have fq : ∀ x, x = q → (x = b ∨ bl p x) ∨ w.heap.size ≤ x := fun x hx => by
    rw [hx]
    rcases hq with h | h
    · exact .inl (.inr h)
    · exact .inr h
  exact ((((f1.mono fun x h => .inl (.inr h)).trans f2 fun x h => .inl (.inl h)).trans f3 fun _ h => h.elim).trans f4 fun x h => fq x h).trans f5 fun x h => fq x h
/-- A pointer is put at the end of a list. -/
theorem end_put {b t o l c nb : Nat} {p : Option Addr} {us : List Value} {kids : List Nat} {ty : TypeId} {cs : Array Bool} {K : W}
    (hB : Blk w b t us) (ho : o < us.length) (hO : Own w 172 p l c (ptrs kids)) (hbp : ∀ x, bl p x → x ≠ b) (hl : l < 100000)
    (hk : ∀ w' p' c', Blk w' b t (us.set o (.slice p' (l + 1) c')) → Own w' 172 p' (l + 1) c' (ptrs (kids ++ [nb])) → (∀ x, bl p' x → bl p x ∨ w.heap.size ≤ x) → Fr (fun x => x = b ∨ bl p x) w w' → K w') :
    RawT Tryz.prog (Instr.buildSlice 95 1 [(0, .pointer (some ⟨nb, 0, none⟩))].toArray) (.s (.one .slice)) (fun a m d => NextT Tryz.prog (builtin .append #[95, 95] ty cs [.slice p l c, .slice a m d].toArray) (.s (.one .slice)) fun s20p s20l s20c =>
      Store1 ⟨b, o, none⟩ (.slice s20p s20l s20c) K) w := by
  obtain ⟨ie, g1, g2, g3, g4⟩ := inf221
  have hblt := hB.lt
  refine append1 (P := Tryz.prog) und186 g1 g2 g3 rfl g4 hO (v := .pointer (some ⟨nb, 0, none⟩)) rfl rfl (by omega) fun p' c' w1 f1 o1 hp' z1 => ?_
  have hB1 := hB.fr f1 fun h => hbp b h rfl
  refine store_intro hB1 ho rfl fun w2 b2 f2 z2 => ?_
  have hne : ∀ x, bl p' x → x ≠ b := fun x hx => by
    rcases hp' x hx with h | h
    · exact hbp x h
    · omega
  refine hk w2 p' c' b2 ?_ hp' ((f1.mono fun x h => .inl (.inr h)).trans f2 fun x h => .inl (.inl h))
  rw [ptrs_append]
  exact o1.fr f2 fun x hx e => hne x hx e
variable {base tb num dm pl pc : Nat} {pp : Option Addr} {D : List Nat} {s : RSt}
/-- Where the list of a node lies. -/
theorem la_eq (tb b : Nat) : ∃ o, la tb b = ⟨b, o, none⟩ ∧ (b = tb → o = 0) ∧ (b ≠ tb → o = 2) := by
  unfold la
  by_cases e : b = tb
  · rw [if_pos e]; exact ⟨0, by rw [e], fun _ => rfl, fun h => absurd e h⟩
  · rw [if_neg e]; exact ⟨2, rfl, fun h => absurd h e, fun _ => rfl⟩
/-- The block of a node. -/
def bsT (tb x : Nat) : TypeId := if x = tb then 97 else 175
def bsC (tb num dm : Nat) (pp : Option Addr) (pl pc : Nat) (x : Nat) (n : Rd) : List Value := if x = tb then topc n num dm pp pl pc else rdc n
theorem RM.blk (h : RM w base tb num dm pp pl pc D s) {x : Nat} (hx : x = tb ∨ x ∈ D) : Blk w x (bsT tb x) (bsC tb num dm pp pl pc x (s x)) := by
  unfold bsT bsC
  rcases hx with rfl | hx
  · rw [if_pos rfl, if_pos rfl]; exact h.top
  · have hne : x ≠ tb := fun e => h.tbD (e ▸ hx)
    rw [if_neg hne, if_neg hne]; exact h.nodes x hx
theorem bsT_ne (tb x : Nat) : bsT tb x ≠ 172 ∧ bsT tb x ≠ 2 := by unfold bsT; split <;> decide
theorem RM.own_ne (h : RM w base tb num dm pp pl pc D s) {x y : Nat} (hx : x = tb ∨ x ∈ D) (hy : y = tb ∨ y ∈ D) : ∀ z, bl (s x).p z → z ≠ y := fun z hz e => by
  obtain ⟨us, hu⟩ := (h.own x hx).blk hz
  rw [e] at hu
  exact (bsT_ne tb y).1 (hu.unique (h.blk hy)).1.symm
theorem bsC_set (tb num dm : Nat) (pp : Option Addr) (pl pc x : Nat) (n : Rd) (p' : Option Addr) (c' : Nat) (kids' : List Nat) {o : Nat} (h1 : x = tb → o = 0) (h2 : x ≠ tb → o = 2) : (bsC tb num dm pp pl pc x n).set o (.slice p' kids'.length c') = bsC tb num dm pp pl pc x { n with p := p', c := c', kids := kids' } := by
  unfold bsC
  by_cases e : x = tb
  · rw [if_pos e, if_pos e, h1 e]; rfl
  · rw [if_neg e, if_neg e, h2 e]; rfl
theorem bsC_len {tb num dm : Nat} {pp : Option Addr} {pl pc x : Nat} {n : Rd} {o : Nat} (h1 : x = tb → o = 0) (h2 : x ≠ tb → o = 2) : o < (bsC tb num dm pp pl pc x n).length := by
  unfold bsC
  by_cases e : x = tb
  · rw [if_pos e, h1 e]; simp [topc]
  · rw [if_neg e, h2 e]; simp [rdc]
/-- A list has turned. -/
theorem RM.kids {w' : World} {x : Nat} {p' : Option Addr} {c' : Nat} {kids' : List Nat} (h : RM w base tb num dm pp pl pc D s) (hx : x = tb ∨ x ∈ D) (hB : Blk w' x (bsT tb x) (bsC tb num dm pp pl pc x { s x with p := p', c := c', kids := kids' })) (hO : Own w' 172 p' kids'.length c' (ptrs kids'))
    (hp : ∀ y, bl p' y → bl (s x).p y ∨ w.heap.size ≤ y) (f : Fr (fun y => y = x ∨ bl (s x).p y) w w') (hk : ∀ c ∈ kids', c ∈ D) : RM w' base tb num dm pp pl pc D (upR s x { s x with p := p', c := c', kids := kids' }) := by
  have nT : ∀ {b u : Nat} {us : List Value}, (b = x ∨ bl (s x).p b) → Blk w b u us → u = bsT tb x ∨ u = 172 := fun {b u us} hb hu => by
    rcases hb with rfl | hb
    · exact .inl (hu.unique (h.blk hx)).1
    · obtain ⟨us', hu'⟩ := (h.own x hx).blk hb
      exact .inr (hu.unique hu').1
  have blk' : ∀ y, (y = tb ∨ y ∈ D) → Blk w' y (bsT tb y) (bsC tb num dm pp pl pc y ((upR s x { s x with p := p', c := c', kids := kids' }) y)) := fun y hy => by
    by_cases e : y = x
    · subst e; rw [upR_same]; exact hB
    · rw [upR_ne e]
      refine (h.blk hy).fr f fun hs => ?_
      rcases hs with hs | hs
      · exact e hs
      · exact h.own_ne hx hy y hs rfl
  refine ⟨fun b hb => ?_, ?_, fun b hb => ?_, fun b b' hb hb' hne y hy hy' => ?_, fun b hb c hc => ?_, fun b hb z hz => ?_, fun b hb => ?_⟩
  · have := blk' b (.inr hb)
    have hne : b ≠ tb := fun e => h.tbD (e ▸ hb)
    unfold bsT bsC at this
    rw [if_neg hne, if_neg hne] at this
    exact this
  · have := blk' tb (.inl rfl)
    unfold bsT bsC at this
    rw [if_pos rfl, if_pos rfl] at this
    exact this
  · by_cases e : b = x
    · subst e; rw [upR_same]; exact hO
    · rw [upR_ne e]
      refine (h.own b hb).fr f fun y hy hs => ?_
      rcases hs with hs | hs
      · exact h.own_ne hb hx y hy hs
      · exact h.dj b x hb hx e y hy hs
  · by_cases e : b = x
    · subst e
      rw [upR_same] at hy
      rw [upR_ne (Ne.symm hne)] at hy'
      rcases hp y hy with h1 | h1
      · exact h.dj b b' hb hb' hne y h1 hy'
      · have := (h.own b' hb').lt hy'; omega
    · rw [upR_ne e] at hy
      by_cases e' : b' = x
      · subst e'
        rw [upR_same] at hy'
        rcases hp y hy' with h1 | h1
        · exact h.dj b b' hb hb' hne y hy h1
        · have := (h.own b hb).lt hy; omega
      · rw [upR_ne e'] at hy'
        exact h.dj b b' hb hb' hne y hy hy'
  · by_cases e : b = x
    · subst e; rw [upR_same] at hc; exact hk c hc
    · rw [upR_ne e] at hc; exact h.kd b hb c hc
  · have hz' : (s b).e = some z := by
      by_cases e : b = x
      · subst e; rw [upR_same] at hz; exact hz
      · rw [upR_ne e] at hz; exact hz
    refine (h.ok b hb z hz').fr f fun y u us hs hu => ?_
    rcases nT hs hu with e | e
    · rw [e]; exact (bsT_ne tb x).2
    · rw [e]; decide
  · by_cases e : b = x
    · subst e
      rw [upR_same]
      refine ⟨(h.lo b hx).1, fun y hy => ?_⟩
      rcases hp y hy with h1 | h1
      · exact (h.lo b hx).2 y h1
      · have := (h.lo b hx).1
        have := (h.blk hx).lt; omega
    · rw [upR_ne e]; exact h.lo b hb
/-- A new node. -/
theorem RM.new {w' : World} {c : Nat} {n : Rd} (h : RM w base tb num dm pp pl pc D s) (f : Fr (fun _ => False) w w') (hc : w.heap.size ≤ c) (hB : Blk w' c 175 (rdc n)) (hO : Own w' 172 n.p n.kids.length n.c (ptrs n.kids)) (hp : ∀ y, bl n.p y → w.heap.size ≤ y) (hkd : n.kids = []) (ok : ∀ x, n.e = some x → DtOk w' x) :
    RM w' base tb num dm pp pl pc (c :: D) (upR s c n) := by
  have h' := h.fr0 f
  have ntb : c ≠ tb := fun e => by have := h.top.lt; omega
  have nD : c ∉ D := fun hb => by have := (h.nodes c hb).lt; omega
  have sb : ∀ b, b = tb ∨ b ∈ D → upR s c n b = s b := fun b hb => upR_ne fun e => by
    rcases hb with hb | hb
    · exact ntb (e ▸ hb)
    · exact nD (e ▸ hb)
  have cas : ∀ b, b = tb ∨ b ∈ c :: D → b = c ∨ (b = tb ∨ b ∈ D) := fun b hb => by
    rcases hb with hb | hb
    · exact .inr (.inl hb)
    · rcases List.mem_cons.1 hb with hb | hb
      · exact .inl hb
      · exact .inr (.inr hb)
  have hbt : base ≤ w.heap.size := by
    have := (h.lo tb (.inl rfl)).1
    have := h.top.lt; omega
  refine ⟨fun b hb => ?_, ?_, fun b hb => ?_, fun b b' hb hb' hne y hy hy' => ?_, fun b hb d hd => ?_, fun b hb z hz => ?_, fun b hb => ?_⟩
  · rcases List.mem_cons.1 hb with rfl | hb
    · rw [upR_same]; exact hB
    · rw [sb b (.inr hb)]; exact h'.nodes b hb
  · rw [sb tb (.inl rfl)]; exact h'.top
  · rcases cas b hb with rfl | hb
    · rw [upR_same]; exact hO
    · rw [sb b hb]; exact h'.own b hb
  · rcases cas b hb with rfl | hb1
    · rcases cas b' hb' with rfl | hb2
      · exact hne rfl
      · rw [upR_same] at hy
        rw [sb b' hb2] at hy'
        have := hp y hy
        have := (h.own b' hb2).lt hy'; omega
    · rw [sb b hb1] at hy
      rcases cas b' hb' with rfl | hb2
      · rw [upR_same] at hy'
        have := hp y hy'
        have := (h.own b hb1).lt hy; omega
      · rw [sb b' hb2] at hy'
        exact h.dj b b' hb1 hb2 hne y hy hy'
  · rcases cas b hb with rfl | hb
    · rw [upR_same, hkd] at hd; cases hd
    · rw [sb b hb] at hd; exact List.mem_cons_of_mem _ (h.kd b hb d hd)
  · rcases List.mem_cons.1 hb with rfl | hb
    · rw [upR_same] at hz; exact ok z hz
    · rw [sb b (.inr hb)] at hz; exact h'.ok b hb z hz
  · rcases cas b hb with rfl | hb
    · rw [upR_same]
      exact ⟨by omega, fun y hy => by have := hp y hy; omega⟩
    · rw [sb b hb]; exact h.lo b hb
theorem inf221m : ∃ i, Tryz.prog.info? 172 = some i ∧ i.zero = some (.pointer none) ∧ i.size = 1 ∧ i.bytes ≤ 65536 := ⟨_, rfl, by kernel_rfl, by kernel_rfl, Nat.le_of_ble_eq_true (by kernel_rfl)⟩
theorem oneC_v (x : Dtn) : oneC x.v = true := rfl
/-- newNode. -/
theorem F105_spec {v : Int} {x : Dtn} {need : Bool} (h : RM w base tb num dm pp pl pc D s) (hx : DtOk w x)
    (hk : ∀ w' c n, c ∉ D → c ≠ tb → w.heap.size ≤ c → n.v = v → n.kids = [] → n.e = (if need = true then none else some x) → RM w' base tb num dm pp pl pc (c :: D) (upR s c n) → Fr (fun _ => False) w w' → k (.pointer (some ⟨c, 0, none⟩)) w') :
    F105 k v x.v need w := by
  unfold F105
  refine new_intro fun c w1 e1 b1 f1 z1 => ?_
  refine store_intro (i := 0) b1 (by simp) rfl fun w2 b2 f2 z2 => ?_
  have b2 : Blk w2 c 175 [.int .i64 v, .nilIface, .slice none 0 0] := b2
  have nD : c ∉ D := fun hb => by have := (h.nodes c hb).lt; omega
  have nt : c ≠ tb := fun e => by have := h.top.lt; omega
  have fc : Fr (fun y => y = c) w w2 := (f1.mono (S' := fun y => y = c) fun _ h => h.elim).trans f2 fun _ h => .inl h
  cases need with
  | true =>
    rw [BIf_true]
    obtain ⟨i, g1, g2, g3, g4⟩ := inf221m
    refine make_intro 0 10 und186 g1 g2 g3 rfl g4 (by omega) (by omega) fun w3 f3 o3 b3 z3 => ?_
    have b23 := b2.fr f3 id
    refine store_intro (i := 2) b23 (by simp) rfl fun w4 b4 f4 z4 => ?_
    have f04 : Fr (fun _ => False) w w4 := ((fc.trans f3 fun _ h => h.elim).trans f4 fun _ h => .inl h).mono fun y hy => .inr (by have hy : y = c := hy; omega)
    have z23 := f3.size
    refine hk w4 c ⟨v, none, some ⟨w2.heap.size, 0, none⟩, 10, []⟩ nD nt (by omega) rfl rfl rfl (h.new f04 (by omega) b4 ?_ (fun y hy => ?_) rfl (fun x hx => by cases hx)) f04
    · exact o3.fr f4 fun y hy e => by
        have := bl_q.1 hy
        have e : y = c := e
        omega
    · have := bl_q.1 hy; omega
  | false =>
    rw [BIf_false]
    refine Req_iff.2 ⟨rfl, ?_⟩
    refine store_intro (i := 1) b2 (by simp) rfl fun w3 b3 f3 z3 => ?_
    have f03 : Fr (fun _ => False) w w3 := (fc.trans f3 fun _ h => .inl h).mono fun y hy => .inr (by have hy : y = c := hy; omega)
    exact hk w3 c ⟨v, some x, none, 0, []⟩ nD nt (by omega) rfl rfl rfl (h.new f03 (by omega) b3 (Own.nil _ _) (fun y ⟨_, h, _⟩ => by cases h) rfl (fun x' hx' => by cases hx'; exact hx.fr0 f03)) f03
end
end Go.Proofs.YtfokodpnoiilbaaGreat.E

namespace Go.Proofs.YtfokodpnoiilbaaGreat.E
open Go
set_option linter.unusedSimpArgs false
set_option linter.unusedVariables false
set_option maxRecDepth 100000
set_option maxHeartbeats 8000000

/-! ## Plain: the place in a sorted list -/
section
variable {β : Type}
theorem ins_at {v : Int} {f : β → β} {x0 : β} : ∀ {L : List (Int × β)}, L.Pairwise (fun p q => p.1 < q.1) →
    (∀ y, L[lbd v (L.map Prod.fst)]? = some (v, y) → lkp v L = some y ∧ insL v f x0 L = L.set (lbd v (L.map Prod.fst)) (v, f y)) ∧
    ((∀ y, L[lbd v (L.map Prod.fst)]? ≠ some (v, y)) → lkp v L = none ∧ insL v f x0 L = L.take (lbd v (L.map Prod.fst)) ++ (v, x0) :: L.drop (lbd v (L.map Prod.fst)))
  | [], _ => ⟨fun y h => by simp at h, fun _ => ⟨rfl, rfl⟩⟩
  | p :: L, h => by
    obtain ⟨h1, h2⟩ := List.pairwise_cons.1 h
    obtain ⟨i1, i2⟩ := ins_at (v := v) (f := f) (x0 := x0) h2
    by_cases hlt : p.1 < v
    · have e : lbd v ((p :: L).map Prod.fst) = lbd v (L.map Prod.fst) + 1 := by show (if p.1 < v then _ else _) = _; rw [if_pos hlt]
      have l1 : lkp v (p :: L) = lkp v L := by show (if p.1 = v then _ else _) = _; rw [if_neg (by omega)]
      have l2 : insL v f x0 (p :: L) = p :: insL v f x0 L := by show (if p.1 < v then _ else _) = _; rw [if_pos hlt]
      rw [e, l1, l2]
      refine ⟨fun y hy => ?_, fun hy => ?_⟩
      · obtain ⟨a, b⟩ := i1 y (by simpa using hy)
        exact ⟨a, by rw [b]; rfl⟩
      · obtain ⟨a, b⟩ := i2 fun y h => hy y (by simpa using h)
        exact ⟨a, by rw [b]; rfl⟩
    · have e : lbd v ((p :: L).map Prod.fst) = 0 := by show (if p.1 < v then _ else _) = _; rw [if_neg hlt]
      rw [e]
      refine ⟨fun y hy => ?_, fun hy => ?_⟩
      · have hp : p = (v, y) := by simpa using hy
        have e1 : p.1 = v := by rw [hp]
        constructor
        · show (if p.1 = v then _ else _) = _; rw [if_pos e1, hp]
        · show (if p.1 < v then _ else if p.1 = v then _ else _) = _; rw [if_neg hlt, if_pos e1, hp]; rfl
      · have e1 : p.1 ≠ v := fun e => hy p.2 (by rw [← e]; rfl)
        constructor
        · show (if p.1 = v then _ else _) = _
          rw [if_neg e1]
          exact lkp_gt fun q hq => by have := h1 q hq; omega
        · show (if p.1 < v then _ else if p.1 = v then _ else _) = _; rw [if_neg hlt, if_neg e1]; rfl
end
def plI (l : List Int) (d : Nat) : Int := if d < 1 then 0 else l.getD (d - 1) 0
section
variable {w : World} {k : Value → W}
theorem F84_dt {p : Option Addr} {c d : Nat} {l : List Int} (h : Sl In64K w p l) (hl : l.length < 1000) (hd : d < 1000) (hk : k (.int .i64 (plI l d)) w) : F84 k p l.length c ((d : Nat) : Int) w := by
  unfold F84
  unfold plI at hk
  by_cases h1 : d < 1
  · rw [decide_eq_true (show ((d : Nat) : Int) < 1 by omega), BIf_true]
    rw [if_pos h1] at hk; exact hk
  · rw [decide_eq_false (show ¬ ((d : Nat) : Int) < 1 by omega), BIf_false, wrap_u64 (by omega) (by omega)]
    rw [if_neg h1] at hk
    by_cases h2 : d > l.length
    · rw [decide_eq_true (show ((d : Nat) : Int) > ((l.length : Nat) : Int) by omega), BIf_true]
      rw [List.getD_eq_getElem?_getD, List.getElem?_eq_none (by omega)] at hk; exact hk
    · rw [decide_eq_false (show ¬ ((d : Nat) : Int) > ((l.length : Nat) : Int) by omega), BIf_false]
      have hx : l[d - 1]? = some (l[d - 1]'(by omega)) := List.getElem?_eq_getElem (by omega)
      rw [List.getD_eq_getElem?_getD, hx] at hk
      generalize l[d - 1]'(by omega) = x at hx hk
      obtain ⟨q, o, rfl, g0⟩ := h.get hx
      have g0 : w.cell? ⟨q, o + (d - 1), none⟩ = some (.int .i64 x) := by
        have : w.cell? ⟨q, o + (d - 1) * 1 + 0, none⟩ = some (.int .i64 x) := g0
        rw [show o + (d - 1) * 1 + 0 = o + (d - 1) by omega] at this; exact this
      rw [NN_mk, subI_u64 (by omega) (by omega), show ((d : Nat) : Int) - 1 = ((d - 1 : Nat) : Int) by omega, Int.toNat_natCast, add_mk]
      exact Req_iff.2 ⟨by omega, LoadT_int.2 ⟨_, g0, hk⟩⟩
theorem m_val (p : Option Addr) (l c : Nat) (i j : Int) (w : World) : (callMethod (.iface 89 (.agg #[.slice p l c, .int .i64 i])) "ValueAtDimension" [.int .u64 j].toArray).run Tryz.prog w = .ok (.enter 116 #[.agg #[.slice p l c, .int .i64 i], .int .u64 j]) w := by kernel_rfl
theorem val_intro {x : Dtn} {d : Nat} {f : Int → W} (h : DtOk w x) (hd : d < 1000) (hk : ∀ w', Fr (fun _ => False) w w' → f (plI x.pos d) w') : NextT Tryz.prog (callMethod x.v "ValueAtDimension" [.int .u64 ((d : Nat) : Int)].toArray) (.s (.one (.int .i64))) f w := by
  refine NextT_enterR (m_val _ _ _ _ _ w) (F116_calls ?_)
  unfold F116
  refine new_intro fun n w1 e1 b1 f1 z1 => load_slice (i := 0) b1 rfl ?_
  exact F84_call (F84_dt (h.fr0 f1).1 h.2 hd (back_int (back_int (hk w1 f1))))
variable {base tb num dm pl pc : Nat} {pp : Option Addr} {D : List Nat} {s : RSt} {x : Nat}
theorem back_pb {f : Option Addr → Bool → W} {p : Option Addr} {b : Bool} (h : f p b w) : Back (.tup [(.one .ptr), (.one .bool)]) f (.returned (.tuple #[.pointer p, .bool b])) w := ⟨(p, b, ()), rfl, h⟩
/-- A node's values. -/
def keysR (s : RSt) (x : Nat) : List Int := (s x).kids.map fun c => (s c).v
/-- orderedNodes.addAt. -/
theorem F113_spec {c : Nat} (h : RM w base tb num dm pp pl pc D s) (hx : x = tb ∨ x ∈ D) (hc : c ∈ D) (hl : (s x).kids.length < 100000)
    (hk1 : (∀ old, (s x).kids[lbd (s c).v (keysR s x)]? = some old → (s old).v ≠ (s c).v) → ∀ w' p' c', RM w' base tb num dm pp pl pc D (upR s x { s x with p := p', c := c', kids := (s x).kids.take (lbd (s c).v (keysR s x)) ++ c :: (s x).kids.drop (lbd (s c).v (keysR s x)) }) → Fr (fun y => y = x ∨ bl (s x).p y) w w' → k (.pointer none) w')
    (hk2 : ∀ old, (s x).kids[lbd (s c).v (keysR s x)]? = some old → (s old).v = (s c).v → ∀ w', RM w' base tb num dm pp pl pc D (upR s x { s x with kids := (s x).kids.set (lbd (s c).v (keysR s x)) c }) → Fr (fun y => y = x ∨ bl (s x).p y) w w' → k (.pointer (some ⟨old, 0, none⟩)) w') :
    F113 k (some (la tb x)) ((lbd (s c).v (keysR s x) : Nat) : Int) (some ⟨c, 0, none⟩) w := by
  have hle := lbd_le (s c).v (keysR s x)
  have hkl : (keysR s x).length = (s x).kids.length := by unfold keysR; rw [List.length_map]
  generalize hi : lbd (s c).v (keysR s x) = i at *
  obtain ⟨o, hla, ho1, ho2⟩ := la_eq tb x
  have hB := h.blk hx
  have hO := h.own x hx
  have hcell : ∀ {w' : World} {f : Option Addr → Nat → Nat → W}, RM w' base tb num dm pp pl pc D s → f (s x).p (s x).kids.length (s x).c w' → LoadT .slice ⟨x, o, none⟩ f w' := fun h' hf => by rw [← hla]; exact h'.cell hx hf
  unfold F113
  rw [hla]
  simp only [NN_mk]
  refine hcell h ?_
  by_cases he : i = (s x).kids.length
  · rw [show (((i : Nat) : Int) == (((s x).kids.length : Nat) : Int)) = true by rw [beq_iff_eq]; omega, BIf_true]
    refine hcell h ?_
    refine end_put hB (bsC_len ho1 ho2) hO (fun y hy e => h.own_ne hx hx y hy e) hl fun w' p' c' B' O' hp f' => ?_
    have hkk : (s x).kids.take i ++ c :: (s x).kids.drop i = (s x).kids ++ [c] := by rw [he, List.take_length, List.drop_length]
    refine hk1 (fun old hold => by rw [he, List.getElem?_eq_none (Nat.le_refl _)] at hold; cases hold) w' p' c' ?_ f'
    rw [hkk]
    have el : (s x).kids.length + 1 = ((s x).kids ++ [c]).length := by simp
    rw [el] at B' O'
    rw [bsC_set tb num dm pp pl pc x (s x) p' c' _ ho1 ho2] at B'
    exact h.kids hx B' O' hp f' fun d hd => by
      rcases List.mem_append.1 hd with hd | hd
      · exact h.kd x hx d hd
      · rw [List.mem_singleton] at hd; rw [hd]; exact hc
  · rw [show (((i : Nat) : Int) == (((s x).kids.length : Nat) : Int)) = false by rw [beq_eq_false_iff_ne]; omega, BIf_false]
    refine drw_intro fun w1 f1 z1 => ?_
    have h1 := h.fr0 f1
    refine hcell h1 ?_
    have hil : i < (s x).kids.length := by omega
    have hold : (s x).kids[i]? = some (s x).kids[i] := List.getElem?_eq_getElem hil
    generalize (s x).kids[i] = old at hold
    have hoD : old ∈ D := h.kd x hx old (List.mem_of_getElem? hold)
    obtain ⟨q, rest, hp, hBq, hqc, hqm⟩ := (h1.own x hx).get (by omega)
    have cellq : ∀ {f : Option Addr → W}, f (some ⟨old, 0, none⟩) w1 → LoadT .ptr ⟨q, i, none⟩ f w1 := fun hf => load_ptr hBq (by rw [List.getElem?_append_left (by simp; omega), ptrs_get, hold]; rfl) hf
    rw [hp]
    simp only [NN_mk, Int.toNat_natCast, add_mk, Nat.zero_add]
    refine Req_iff.2 ⟨by omega, cellq ?_⟩
    simp only [NN_mk]
    refine load_int (i := 0) (h1.nodes old hoD) rfl (load_int (i := 0) (h1.nodes c hc) rfl ?_)
    by_cases hv : (s old).v = (s c).v
    · rw [show ((s old).v == (s c).v) = true by rw [beq_iff_eq]; exact hv, BIf_true]
      refine hcell h1 ?_
      rw [hp]
      simp only [NN_mk, Int.toNat_natCast, add_mk, Nat.zero_add]
      refine Req_iff.2 ⟨by omega, cellq ?_⟩
      refine hcell h1 ?_
      rw [hp]
      simp only [NN_mk, Int.toNat_natCast, add_mk, Nat.zero_add]
      refine Req_iff.2 ⟨by omega, store_intro hBq (by simp; omega) rfl fun w2 b2 f2 z2 => ?_⟩
      have b2 : Blk w2 q 172 (ptrs ((s x).kids.set i c) ++ rest) := by
        have e : (ptrs (s x).kids ++ rest).set i (.pointer (some ⟨c, 0, none⟩)) = ptrs ((s x).kids.set i c) ++ rest := by
          rw [List.set_append_left _ _ (by simp; omega)]
          unfold ptrs
          rw [List.map_set]
        rw [← e]; exact b2
      have fq : Fr (fun y => y = x ∨ bl (s x).p y) w1 w2 := f2.mono fun y hy => .inl (.inr (by rw [hp]; exact bl_q.2 hy))
      have f02 : Fr (fun y => y = x ∨ bl (s x).p y) w w2 := (f1.mono fun _ h => h.elim).trans fq fun y hy => .inl hy
      have hqx : x ≠ q := fun e => by
        have := h.own_ne hx hx q (by rw [hp]; exact bl_q.2 rfl)
        exact this e.symm
      have hlen : ((s x).kids.set i c).length = (s x).kids.length := by simp
      have hBx := (h1.blk hx).fr f2 hqx
      refine hk2 old hold hv w2 ?_ f02
      have := h1.kids (w' := w2) (x := x) (p' := (s x).p) (c' := (s x).c) (kids' := (s x).kids.set i c) hx ?_ ?_ (fun y hy => .inl hy) fq fun d hd => ?_
      · exact this
      · have e : bsC tb num dm pp pl pc x { s x with kids := (s x).kids.set i c } = bsC tb num dm pp pl pc x (s x) := by
          unfold bsC topc rdc; simp only [hlen]
        show Blk w2 x (bsT tb x) (bsC tb num dm pp pl pc x { s x with kids := (s x).kids.set i c })
        rw [e]; exact hBx
      · rw [hp]
        exact Own.mk' b2 (by simp) (by rw [← hqc]; simp) hqm
      · rcases List.mem_or_eq_of_mem_set hd with hd | hd
        · exact h.kd x hx d hd
        · rw [hd]; exact hc
    · rw [show ((s old).v == (s c).v) = false by rw [beq_eq_false_iff_ne]; exact hv, BIf_false]
      refine hcell h1 ?_
      refine mid_put (nb := c) (h1.blk hx) (bsC_len ho1 ho2) (h1.own x hx) (fun y hy e => h.own_ne hx hx y hy e) hil hl fun w' p' c' B' O' hp' f' => ?_
      have el : (s x).kids.length + 1 = ((s x).kids.take i ++ c :: (s x).kids.drop i).length := by simp; omega
      rw [el] at B' O'
      rw [bsC_set tb num dm pp pl pc x (s x) p' c' _ ho1 ho2] at B'
      refine hk1 (fun old' h' => by rw [hold] at h'; cases h'; exact hv) w' p' c' (h1.kids hx B' O' hp' f' fun d hd => ?_) ((f1.mono fun _ h => h.elim).trans f' fun y hy => .inl hy)
      rcases List.mem_append.1 hd with hd | hd
      · exact h.kd x hx d (List.mem_of_mem_take hd)
      · rcases List.mem_cons.1 hd with rfl | hd
        · exact hc
        · exact h.kd x hx d (List.mem_of_mem_drop hd)
/-- orderedNodes.add. -/
theorem F104_spec {c : Nat} (h : RM w base tb num dm pp pl pc D s) (hx : x = tb ∨ x ∈ D) (hc : c ∈ D) (hs : (keysR s x).Pairwise (· < ·)) (hl : (s x).kids.length < 100000)
    (hk1 : (∀ old, (s x).kids[lbd (s c).v (keysR s x)]? = some old → (s old).v ≠ (s c).v) → ∀ w' p' c', RM w' base tb num dm pp pl pc D (upR s x { s x with p := p', c := c', kids := (s x).kids.take (lbd (s c).v (keysR s x)) ++ c :: (s x).kids.drop (lbd (s c).v (keysR s x)) }) → Fr (fun y => y = x ∨ bl (s x).p y) w w' → k (.pointer none) w')
    (hk2 : ∀ old, (s x).kids[lbd (s c).v (keysR s x)]? = some old → (s old).v = (s c).v → ∀ w', RM w' base tb num dm pp pl pc D (upR s x { s x with kids := (s x).kids.set (lbd (s c).v (keysR s x)) c }) → Fr (fun y => y = x ∨ bl (s x).p y) w w' → k (.pointer (some ⟨old, 0, none⟩)) w') :
    F104 k (some (la tb x)) (some ⟨c, 0, none⟩) w := by
  unfold F104
  refine drw_intro fun w1 f1 z1 => ?_
  have h1 := h.fr0 f1
  simp only [NN_mk]
  refine h1.cell hx (load_int (i := 0) (h1.nodes c hc) rfl ?_)
  refine F111_call (F111_spec h1 hx hs hl fun w2 f2 => back_int ?_)
  have f02 : Fr (fun y => y = x ∨ bl (s x).p y) w w2 := (f1.trans f2 fun _ h => h.elim).mono fun _ h => h.elim
  refine F113_call (F113_spec (h1.fr0 f2) hx hc hl (fun hn w' p' c' r' f' => back_ptr (hk1 hn w' p' c' r' (f02.trans f' fun y hy => .inl hy))) fun old ho hv w' r' f' => back_ptr (hk2 old ho hv w' r' (f02.trans f' fun y hy => .inl hy)))
end
end Go.Proofs.YtfokodpnoiilbaaGreat.E

namespace Go.Proofs.YtfokodpnoiilbaaGreat.E
open Go
set_option linter.unusedSimpArgs false
set_option linter.unusedVariables false
set_option maxRecDepth 100000
set_option maxHeartbeats 8000000

/-- What turns is of the tree's types, and not old. -/
def Fy (base : Nat) (w w' : World) : Prop := ∃ S, Fr S w w' ∧ Tys S w [175, 97, 172] ∧ ∀ b, S b → base ≤ b
theorem Fy.of {base : Nat} {S : Nat → Prop} {w w' : World} (f : Fr S w w') (h : Tys S w [175, 97, 172]) (hb : ∀ b, S b → base ≤ b) : Fy base w w' := ⟨S, f, h, hb⟩
theorem Fy.of0 {base : Nat} {w w' : World} (f : Fr (fun _ => False) w w') : Fy base w w' := ⟨_, f, fun _ _ _ h => h.elim, fun _ h => h.elim⟩
theorem Fy.trans {base : Nat} {w w1 w2 : World} : Fy base w w1 → Fy base w1 w2 → Fy base w w2 := fun ⟨S, f, h, g⟩ ⟨S2, f2, h2, g2⟩ => ⟨fun y => S y ∨ S2 y, (f.mono fun y hy => .inl (.inl hy)).trans f2 fun y hy => .inl (.inr hy), fun b u us hb hB => by
  by_cases hS : S b
  · exact h b u us hS hB
  · rcases hb with hb | hb
    · exact h b u us hb hB
    · exact h2 b u us hb (hB.fr f hS), fun b hb => hb.elim (g b) (g2 b)⟩
theorem Fy.blk {base : Nat} {w w' : World} {b t : Nat} {us : List Value} (h : Blk w b t us) (f : Fy base w w') (ht : t ≠ 175 ∧ t ≠ 97 ∧ t ≠ 172) : Blk w' b t us := by
  obtain ⟨S, f, hS, _⟩ := f
  refine h.fr f fun hs => ?_
  have := hS b t us hs h
  simp only [List.mem_cons, List.not_mem_nil, or_false] at this
  rcases this with e | e | e
  · exact ht.1 e
  · exact ht.2.1 e
  · exact ht.2.2 e
theorem Fy.dt {base : Nat} {w w' : World} {x : Dtn} (h : DtOk w x) (f : Fy base w w') : DtOk w' x := by
  obtain ⟨S, f, hS, _⟩ := f
  exact h.fr f fun b u us hs hB => by
    have := hS b u us hs hB
    simp only [List.mem_cons, List.not_mem_nil, or_false] at this
    rcases this with e | e | e <;> rw [e] <;> decide
section
variable {w : World} {k : Value → W} {base tb num dm pl pc : Nat} {pp : Option Addr} {D : List Nat} {s : RSt} {x : Nat}
theorem RM.fy {w' : World} (h : RM w base tb num dm pp pl pc D s) (hx : x = tb ∨ x ∈ D) (f : Fr (fun y => y = x ∨ bl (s x).p y) w w') : Fy base w w' := Fy.of f (fun b u us hb hu => by
  rcases hb with rfl | hb
  · have := (hu.unique (h.blk hx)).1
    rw [this]; unfold bsT; split <;> simp
  · obtain ⟨us', hu'⟩ := (h.own x hx).blk hb
    rw [(hu.unique hu').1]; simp)
  (fun b hb => by
    rcases hb with rfl | hb
    · exact (h.lo b hx).1
    · exact (h.lo x hx).2 b hb)
theorem F103_no {i : Nat} (hi : i < dm) (hdm : dm < 1000) (hk : k (.bool false) w) : F103 k ((dm : Nat) : Int) ((i : Nat) : Int) w := by
  unfold F103
  rw [decide_eq_false (show ¬ ((i : Nat) : Int) ≥ ((dm : Nat) : Int) by omega)]
  exact bind_intro hk
theorem F103_yes {i : Nat} (hi : dm ≤ i) (hk : k (.bool true) w) : F103 k ((dm : Nat) : Int) ((i : Nat) : Int) w := by
  unfold F103
  rw [decide_eq_true (show ((i : Nat) : Int) ≥ ((dm : Nat) : Int) by omega)]
  exact bind_intro hk
/-- orderedNodes.getOrAdd. -/
theorem F106_spec {e : Dtn} {i : Nat} (h : RM w base tb num dm pp pl pc D s) (hx : x = tb ∨ x ∈ D) (he : DtOk w e) (hi : i < dm) (hdm : dm < 1000) (hs : (keysR s x).Pairwise (· < ·)) (hl : (s x).kids.length < 100000)
    (hk1 : ∀ old, (s x).kids[lbd (plI e.pos i) (keysR s x)]? = some old → (s old).v = plI e.pos i → ∀ w', RM w' base tb num dm pp pl pc D s → Fr (fun _ => False) w w' → k (.tuple #[.pointer (some ⟨old, 0, none⟩), .bool false]) w')
    (hk2 : (∀ old, (s x).kids[lbd (plI e.pos i) (keysR s x)]? = some old → (s old).v ≠ plI e.pos i) → ∀ w' c n p' c', c ∉ D → c ≠ tb → n.v = plI e.pos i → n.kids = [] → n.e = none → RM w' base tb num dm pp pl pc (c :: D) (upR (upR s c n) x { s x with p := p', c := c', kids := (s x).kids.take (lbd (plI e.pos i) (keysR s x)) ++ c :: (s x).kids.drop (lbd (plI e.pos i) (keysR s x)) }) → Fy base w w' → k (.tuple #[.pointer (some ⟨c, 0, none⟩), .bool true]) w') :
    F106 k (some (la tb x)) e.v ((i : Nat) : Int) ((dm : Nat) : Int) w := by
  have hle := lbd_le (plI e.pos i) (keysR s x)
  have hkl : (keysR s x).length = (s x).kids.length := by unfold keysR; rw [List.length_map]
  generalize hv : plI e.pos i = v at *
  generalize hj : lbd v (keysR s x) = j at *
  obtain ⟨o, hla, ho1, ho2⟩ := la_eq tb x
  have hcell : ∀ {w' : World} {D : List Nat} {s : RSt} {f : Option Addr → Nat → Nat → W}, RM w' base tb num dm pp pl pc D s → (x = tb ∨ x ∈ D) → f (s x).p (s x).kids.length (s x).c w' → LoadT .slice ⟨x, o, none⟩ f w' := fun h' hx hf => by rw [← hla]; exact h'.cell hx hf
  unfold F106
  refine F103_call (F103_no hi hdm (back_bool ?_))
  refine val_intro he (by omega) fun w1 f1 => ?_
  rw [hla, hv]
  simp only [NN_mk]
  have h1 := h.fr0 f1
  refine hcell h1 hx ?_
  refine F111_call (F111_spec h1 hx hs hl fun w2 f2 => back_int ?_)
  rw [show lbd v ((s x).kids.map fun c => (s c).v) = j from hj]
  have h2 := h1.fr0 f2
  have f02 : Fr (fun _ => False) w w2 := f1.trans f2 fun _ h => h.elim
  have he2 := he.fr0 f02
  refine hcell h2 hx ?_
  -- a new node
  have nw : ∀ {w3 : World} {c : Nat} {n : Rd}, c ∉ D → c ≠ tb → w2.heap.size ≤ c → n.kids = [] → RM w3 base tb num dm pp pl pc (c :: D) (upR s c n) → x ≠ c ∧ upR s c n x = s x := fun {w3 c n} nD nt _ _ _ => by
    have hne : x ≠ c := fun e => by
      rcases hx with hx | hx
      · exact nt (by rw [← e]; exact hx)
      · exact nD (e ▸ hx)
    exact ⟨hne, upR_ne hne⟩
  have hx' : ∀ {c : Nat}, x = tb ∨ x ∈ c :: D := fun {c} => hx.imp id fun h => List.mem_cons_of_mem _ h
  by_cases hend : j = (s x).kids.length
  · rw [show (((j : Nat) : Int) == (((s x).kids.length : Nat) : Int)) = true by rw [beq_iff_eq]; omega, BIf_true]
    refine F105_call (F105_spec h2 he2 fun w3 c n nD nt nl nv nk ne h3 f3 => back_ptr ?_)
    obtain ⟨hne, hsx⟩ := nw nD nt nl nk h3
    refine hcell h3 hx' ?_
    rw [hsx]
    have hB := h3.blk hx'
    have hO := h3.own x hx'
    rw [hsx] at hB hO
    refine end_put hB (bsC_len ho1 ho2) hO (fun y hy e => h3.own_ne hx' hx' y (by rw [hsx]; exact hy) e) hl fun w' p' c' B' O' hp f' => ?_
    have hkk : (s x).kids.take j ++ c :: (s x).kids.drop j = (s x).kids ++ [c] := by rw [hend, List.take_length, List.drop_length]
    refine hk2 (fun old hold => by rw [hend, List.getElem?_eq_none (Nat.le_refl _)] at hold; cases hold) w' c n p' c' nD nt nv nk (by rw [ne]; rfl) ?_ ?_
    · rw [hkk]
      have el : (s x).kids.length + 1 = ((s x).kids ++ [c]).length := by simp
      rw [el] at B' O'
      rw [bsC_set tb num dm pp pl pc x (s x) p' c' _ ho1 ho2] at B'
      have := h3.kids (w' := w') (x := x) (p' := p') (c' := c') (kids' := (s x).kids ++ [c]) hx' (by rw [hsx]; exact B') O' (by rw [hsx]; exact hp) (by rw [hsx]; exact f') fun d hd => by
        rcases List.mem_append.1 hd with hd | hd
        · exact List.mem_cons_of_mem _ (h.kd x hx d hd)
        · rw [List.mem_singleton] at hd; rw [hd]; exact List.mem_cons_self
      rw [hsx] at this
      exact this
    · exact (Fy.of0 (f02.trans f3 fun _ h => h.elim)).trans (h3.fy hx' (by rw [hsx]; exact f'))
  · rw [show (((j : Nat) : Int) == (((s x).kids.length : Nat) : Int)) = false by rw [beq_eq_false_iff_ne]; omega, BIf_false]
    refine hcell h2 hx ?_
    have hil : j < (s x).kids.length := by omega
    have hold : (s x).kids[j]? = some (s x).kids[j] := List.getElem?_eq_getElem hil
    generalize (s x).kids[j] = old at hold
    have hoD : old ∈ D := h.kd x hx old (List.mem_of_getElem? hold)
    obtain ⟨q, rest, hp, hBq, hqc, hqm⟩ := (h2.own x hx).get (by omega)
    have cellq : ∀ {f : Option Addr → W}, f (some ⟨old, 0, none⟩) w2 → LoadT .ptr ⟨q, j, none⟩ f w2 := fun hf => load_ptr hBq (by rw [List.getElem?_append_left (by simp; omega), ptrs_get, hold]; rfl) hf
    rw [hp]
    simp only [NN_mk, Int.toNat_natCast, add_mk, Nat.zero_add]
    refine Req_iff.2 ⟨by omega, cellq ?_⟩
    simp only [NN_mk]
    refine load_int (i := 0) (h2.nodes old hoD) rfl ?_
    by_cases hvv : (s old).v = v
    · rw [show ((s old).v == v) = true by rw [beq_iff_eq]; exact hvv, BIf_true]
      refine hcell h2 hx ?_
      rw [hp]
      simp only [NN_mk, Int.toNat_natCast, add_mk, Nat.zero_add]
      refine Req_iff.2 ⟨by omega, cellq ?_⟩
      exact hk1 old hold hvv w2 h2 f02
    · rw [show ((s old).v == v) = false by rw [beq_eq_false_iff_ne]; exact hvv, BIf_false]
      refine F105_call (F105_spec h2 he2 fun w3 c n nD nt nl nv nk ne h3 f3 => back_ptr ?_)
      obtain ⟨hne, hsx⟩ := nw nD nt nl nk h3
      refine hcell h3 hx' ?_
      rw [hsx]
      have hB := h3.blk hx'
      have hO := h3.own x hx'
      rw [hsx] at hB hO
      refine mid_put (nb := c) hB (bsC_len ho1 ho2) hO (fun y hy e => h3.own_ne hx' hx' y (by rw [hsx]; exact hy) e) hil hl fun w' p' c' B' O' hp' f' => ?_
      refine hk2 (fun old' h' => by rw [hold] at h'; cases h'; exact hvv) w' c n p' c' nD nt nv nk (by rw [ne]; rfl) ?_ ?_
      · have el : (s x).kids.length + 1 = ((s x).kids.take j ++ c :: (s x).kids.drop j).length := by simp; omega
        rw [el] at B' O'
        rw [bsC_set tb num dm pp pl pc x (s x) p' c' _ ho1 ho2] at B'
        have := h3.kids (w' := w') (x := x) (p' := p') (c' := c') (kids' := (s x).kids.take j ++ c :: (s x).kids.drop j) hx' (by rw [hsx]; exact B') O' (by rw [hsx]; exact hp') (by rw [hsx]; exact f') fun d hd => by
          rcases List.mem_append.1 hd with hd | hd
          · exact List.mem_cons_of_mem _ (h.kd x hx d (List.mem_of_mem_take hd))
          · rcases List.mem_cons.1 hd with rfl | hd
            · exact List.mem_cons_self
            · exact List.mem_cons_of_mem _ (h.kd x hx d (List.mem_of_mem_drop hd))
        rw [hsx] at this
        exact this
      · exact (Fy.of0 (f02.trans f3 fun _ h => h.elim)).trans (h3.fy hx' (by rw [hsx]; exact f'))
end
end Go.Proofs.YtfokodpnoiilbaaGreat.E

namespace Go.Proofs.YtfokodpnoiilbaaGreat.E
open Go
set_option linter.unusedSimpArgs false
set_option linter.unusedVariables false
set_option maxRecDepth 100000
set_option maxHeartbeats 8000000

def kyD (e : Dtn) : Nat → Nat → List Int
  | 0, _ => []
  | m + 1, i => plI e.pos i :: kyD e m (i + 1)
def lvl (m : Nat) (s : RSt) (l : List Nat) : List (Int × ON (Option Dtn) m) := l.map fun c => ((s c).v, absN m s c)
def rcl (m : Nat) (s : RSt) (l : List Nat) : List Nat := l.flatMap fun c => c :: rch m s c
theorem rcl_append (m : Nat) (s : RSt) (a b : List Nat) : rcl m s (a ++ b) = rcl m s a ++ rcl m s b := List.flatMap_append
theorem rcl_cons (m : Nat) (s : RSt) (c : Nat) (b : List Nat) : rcl m s (c :: b) = (c :: rch m s c) ++ rcl m s b := List.flatMap_cons
theorem lvl_append (m : Nat) (s : RSt) (a b : List Nat) : lvl m s (a ++ b) = lvl m s a ++ lvl m s b := List.map_append
theorem lvl_cons (m : Nat) (s : RSt) (c : Nat) (b : List Nat) : lvl m s (c :: b) = ((s c).v, absN m s c) :: lvl m s b := rfl
theorem lvl_congr {m : Nat} {s s' : RSt} {l : List Nat} (h : ∀ y ∈ rcl m s l, s' y = s y) : lvl m s' l = lvl m s l ∧ rcl m s' l = rcl m s l := by
  induction l with
  | nil => exact ⟨rfl, rfl⟩
  | cons c l ih =>
    rw [rcl_cons] at h
    obtain ⟨i1, i2⟩ := ih fun y hy => h y (List.mem_append_right _ hy)
    have hc := h c (List.mem_append_left _ List.mem_cons_self)
    obtain ⟨j1, j2⟩ := absN_congr m hc fun y hy => h y (List.mem_append_left _ (List.mem_cons_of_mem _ hy))
    rw [lvl_cons, lvl_cons, rcl_cons, rcl_cons, i1, i2, hc, j1, j2]
    exact ⟨rfl, rfl⟩
theorem rcl0 (s : RSt) : ∀ l : List Nat, rcl 0 s l = l
  | [] => rfl
  | c :: l => by rw [rcl_cons, rcl0 s l]; rfl
theorem mem_rcl {m : Nat} {s : RSt} {l : List Nat} {c : Nat} (h : c ∈ l) : c ∈ rcl m s l := List.mem_flatMap.2 ⟨c, h, List.mem_cons_self⟩
/-- Who is below a node is a node. -/
def Kd (tb : Nat) (D : List Nat) (s : RSt) : Prop := ∀ b, b = tb ∨ b ∈ D → ∀ c ∈ (s b).kids, c ∈ D
theorem rch_D : ∀ (m : Nat) {tb : Nat} {D : List Nat} {s : RSt} {x : Nat}, Kd tb D s → (x = tb ∨ x ∈ D) → ∀ y ∈ rch m s x, y ∈ D
  | 0, _, _, _, _, _, _, y, hy => by cases hy
  | m + 1, _, _, _, _, h, hx, y, hy => by
    obtain ⟨c, hc, hy⟩ := List.mem_flatMap.1 hy
    have hcD := h _ hx c hc
    rcases List.mem_cons.1 hy with rfl | hy
    · exact hcD
    · exact rch_D m h (.inr hcD) y hy
theorem nodup_mid {x : Nat} {P M Q M' : List Nat} (h : (x :: (P ++ (M ++ Q))).Nodup) (h' : M'.Nodup) (hm : ∀ y ∈ M', y ∈ M ∨ y ∉ x :: (P ++ (M ++ Q))) : (x :: (P ++ (M' ++ Q))).Nodup := by
  simp only [List.nodup_cons, List.nodup_append, List.mem_append, List.mem_cons, not_or] at h hm ⊢
  obtain ⟨⟨a1, a2, a3⟩, b1, ⟨c1, c2, c3⟩, d⟩ := h
  refine ⟨⟨a1, fun hx => ?_, a3⟩, b1, ⟨h', c2, fun y hy z hz => ?_⟩, fun y hy z hz => ?_⟩
  · rcases hm x hx with h | h
    · exact a2 h
    · exact h.1 rfl
  · rcases hm y hy with h | h
    · exact c3 y h z hz
    · exact fun e => h.2.2.2 (e ▸ hz)
  · rcases hz with hz | hz
    · rcases hm z hz with h | h
      · exact d y hy z (.inl h)
      · exact fun e => h.2.1 (e ▸ hy)
    · exact d y hy z (.inr hz)
theorem child {m x c : Nat} {A B : List Nat} {s s' : RSt} (hk : (s x).kids = A ++ c :: B) (nd : (x :: rch (m + 1) s x).Nodup)
    (out : ∀ y ∈ x :: rch (m + 1) s x, y ≠ c → y ∉ rch m s c → s' y = s y) (hv : (s' c).v = (s c).v) (nd' : (c :: rch m s' c).Nodup) (fresh : ∀ y ∈ rch m s' c, y ∈ rch m s c ∨ y ∉ x :: rch (m + 1) s x) :
    s' x = s x ∧ absN (m + 1) s' x = lvl m s A ++ ((s c).v, absN m s' c) :: lvl m s B ∧ (x :: rch (m + 1) s' x).Nodup ∧ (∀ y ∈ rch (m + 1) s' x, y ∈ rch (m + 1) s x ∨ y ∈ rch m s' c) := by
  have hr : rch (m + 1) s x = rcl m s A ++ ((c :: rch m s c) ++ rcl m s B) := by
    show rcl m s (s x).kids = _
    rw [hk, rcl_append, rcl_cons]
  rw [hr] at nd out fresh
  have nd0 := nd
  simp only [List.nodup_cons, List.nodup_append, List.mem_append, List.mem_cons, not_or] at nd0
  obtain ⟨⟨a1, a2, a3⟩, b1, ⟨c1, c2, c3⟩, d⟩ := nd0
  have e1 : s' x = s x := out x List.mem_cons_self (fun e => a2.1 e) a2.2
  obtain ⟨eA, eA'⟩ := lvl_congr (m := m) (s := s) (s' := s') (l := A) fun y hy => out y (List.mem_cons_of_mem _ (List.mem_append_left _ hy)) (fun e => d y hy c (.inl (.inl rfl)) e) fun h => d y hy y (.inl (.inr h)) rfl
  obtain ⟨eB, eB'⟩ := lvl_congr (m := m) (s := s) (s' := s') (l := B) fun y hy => out y (List.mem_cons_of_mem _ (List.mem_append_right _ (List.mem_append_right _ hy))) (fun e => c3 c (.inl rfl) y hy e.symm) fun h => c3 y (.inr h) y hy rfl
  have hr' : rch (m + 1) s' x = rcl m s A ++ ((c :: rch m s' c) ++ rcl m s B) := by
    show rcl m s' (s' x).kids = _
    rw [e1, hk, rcl_append, rcl_cons, eA', eB']
  refine ⟨e1, ?_, ?_, fun y hy => ?_⟩
  · show lvl m s' (s' x).kids = _
    rw [e1, hk, lvl_append, lvl_cons, eA, eB, hv]
  · rw [hr']
    refine nodup_mid nd nd' fun y hy => ?_
    rcases List.mem_cons.1 hy with rfl | hy
    · exact .inl List.mem_cons_self
    · exact (fresh y hy).imp (List.mem_cons_of_mem _) id
  · rw [hr'] at hy
    rw [hr]
    rcases List.mem_append.1 hy with hy | hy
    · exact .inl (List.mem_append_left _ hy)
    · rcases List.mem_append.1 hy with hy | hy
      · rcases List.mem_cons.1 hy with rfl | hy
        · exact .inl (List.mem_append_right _ (List.mem_append_left _ List.mem_cons_self))
        · exact .inr hy
      · exact .inl (List.mem_append_right _ (List.mem_append_right _ hy))
structure RIn (tb B m x : Nat) (D : List Nat) (s : RSt) : Prop where
  hx : x = tb ∨ x ∈ D
  nd : (x :: rch m s x).Nodup
  sr : SrtN m (absN m s x)
  b1 : ∀ b, (b = tb ∨ b ∈ D) → (s b).kids.length ≤ B + 1
  b2 : ∀ b ∈ x :: rch m s x, (s b).kids.length ≤ B
structure RPost (tb B m i : Nat) (e : Dtn) (x : Nat) (D : List Nat) (s : RSt) (D' : List Nat) (s' : RSt) (r : Option (Option Dtn)) : Prop where
  sub : ∀ b ∈ D, b ∈ D'
  out : ∀ y, (y = tb ∨ y ∈ D) → y ≠ x → y ∉ rch m s x → s' y = s y
  v : (s' x).v = (s x).v
  en : (s' x).e = (s x).e
  ab : absN m s' x = addON m (absN m s x) (kyD e m i) (some e)
  nd : (x :: rch m s' x).Nodup
  rc : ∀ y ∈ rch m s' x, y ∈ rch m s x ∨ (y ∉ D ∧ y ≠ tb)
  b1 : ∀ b, (b = tb ∨ b ∈ D') → (s' b).kids.length ≤ B + 1
  gt : getON m (absN m s x) (kyD e m i) = r
theorem lvl_fst (m : Nat) (s : RSt) (l : List Nat) : (lvl m s l).map Prod.fst = l.map fun c => (s c).v := by
  unfold lvl; rw [List.map_map]; rfl
theorem sr_keys {m x : Nat} {s : RSt} (h : SrtN (m + 1) (absN (m + 1) s x)) : (keysR s x).Pairwise (· < ·) := by
  have h1 : (lvl m s (s x).kids).Pairwise (fun p q => p.1 < q.1) := h.1
  unfold keysR
  rw [← lvl_fst m, List.pairwise_map]
  exact h1
section
variable {w : World} {base tb num dm pl pc B m i x c : Nat} {pp : Option Addr} {D D' : List Nat} {s s' : RSt} {e : Dtn} {r : Option (Option Dtn)}
/-- The child was there: what is asked of it. -/
theorem RIn.found (h : Kd tb D s) (hi : RIn tb B (m + 1) x D s) (hc : c ∈ (s x).kids) : RIn tb B m c D s := by
  have hcD := h x hi.hx c hc
  have hsub : ∀ y ∈ c :: rch m s c, y ∈ rch (m + 1) s x := fun y hy => List.mem_flatMap.2 ⟨c, hc, hy⟩
  refine ⟨.inr hcD, ?_, ?_, hi.b1, fun b hb => hi.b2 b (List.mem_cons_of_mem _ (hsub b hb))⟩
  · have h1 := (List.nodup_cons.1 hi.nd).2
    obtain ⟨A, B', hk⟩ := List.append_of_mem hc
    have h1 : (rcl m s (s x).kids).Nodup := h1
    rw [hk, rcl_append, rcl_cons] at h1
    exact (List.nodup_append.1 (List.nodup_append.1 h1).2.1).1
  · exact hi.sr.2 ((s c).v, absN m s c) (List.mem_map.2 ⟨c, hc, rfl⟩)
/-- From the child, which was there, to its node. -/
theorem RPost.found (h : Kd tb D s) (hi : RIn tb B (m + 1) x D s) (hj : (s x).kids[lbd (plI e.pos i) (keysR s x)]? = some c) (hv : (s c).v = plI e.pos i) (p : RPost tb B m (i + 1) e c D s D' s' r) :
    RPost tb B (m + 1) i e x D s D' s' r := by
  obtain ⟨hjl, hjc⟩ := List.getElem?_eq_some_iff.1 hj
  generalize hjj : lbd (plI e.pos i) (keysR s x) = j at *
  have hc : c ∈ (s x).kids := List.mem_of_getElem? hj
  have hk : (s x).kids = (s x).kids.take j ++ c :: (s x).kids.drop (j + 1) := by
    rw [← hjc, List.getElem_cons_drop, List.take_append_drop]
  have hD : ∀ y ∈ x :: rch (m + 1) s x, y = tb ∨ y ∈ D := fun y hy => by
    rcases List.mem_cons.1 hy with rfl | hy
    · exact hi.hx
    · exact .inr (rch_D _ h hi.hx y hy)
  obtain ⟨c1, c2, c3, c4⟩ := child (s' := s') hk hi.nd (fun y hy h1 h2 => p.out y (hD y hy) h1 h2) p.v p.nd fun y hy => (p.rc y hy).imp id fun h hy => (hD y hy).elim h.2 h.1
  have hL : (lvl m s (s x).kids)[j]? = some (plI e.pos i, absN m s c) := by
    unfold lvl; rw [List.getElem?_map, hj, ← hv]; rfl
  have hs : (lvl m s (s x).kids).Pairwise (fun p q => p.1 < q.1) := hi.sr.1
  have hlb : lbd (plI e.pos i) ((lvl m s (s x).kids).map Prod.fst) = j := by rw [lvl_fst]; exact hjj
  have key : ∀ (f : ON (Option Dtn) m → ON (Option Dtn) m) x0, lkp (plI e.pos i) (lvl m s (s x).kids) = some (absN m s c) ∧ insL (plI e.pos i) f x0 (lvl m s (s x).kids) = (lvl m s (s x).kids).set j (plI e.pos i, f (absN m s c)) := fun f x0 => by
    have := (ins_at (f := f) (x0 := x0) hs (v := plI e.pos i)).1 (absN m s c) (by rw [hlb]; exact hL)
    rw [hlb] at this; exact this
  have hg : getON (m + 1) (absN (m + 1) s x) (kyD e (m + 1) i) = getON m (absN m s c) (kyD e m (i + 1)) := by
    show (lkp (plI e.pos i) (lvl m s (s x).kids)).bind _ = _
    rw [(key id (newON m [] (some e))).1]; rfl
  refine ⟨p.sub, fun y hy h1 h2 => p.out y hy (fun e => h2 (e ▸ List.mem_flatMap.2 ⟨c, hc, List.mem_cons_self⟩)) fun hy' => h2 (List.mem_flatMap.2 ⟨c, hc, List.mem_cons_of_mem _ hy'⟩), by rw [c1], by rw [c1], ?_, c3, fun y hy => ?_, p.b1, by rw [hg]; exact p.gt⟩
  · rw [c2, p.ab, hv]
    show _ = insL (plI e.pos i) (fun x => addON m x (kyD e m (i + 1)) (some e)) (newON m (kyD e m (i + 1)) (some e)) (lvl m s (s x).kids)
    rw [(key _ _).2]
    conv => rhs; rw [hk]
    rw [lvl_append, lvl_cons, List.set_append_right _ _ (by unfold lvl; simp; omega)]
    have : j - (lvl m s ((s x).kids.take j)).length = 0 := by unfold lvl; simp; omega
    rw [this]; rfl
  · rcases c4 y hy with h1 | h1
    · exact .inl h1
    · rcases p.rc y h1 with h2 | h2
      · exact .inl (List.mem_flatMap.2 ⟨c, hc, List.mem_cons_of_mem _ h2⟩)
      · exact .inr h2
end
end Go.Proofs.YtfokodpnoiilbaaGreat.E

namespace Go.Proofs.YtfokodpnoiilbaaGreat.E
open Go
set_option linter.unusedSimpArgs false
set_option linter.unusedVariables false
set_option maxRecDepth 100000
set_option maxHeartbeats 8000000

section
variable {w : World} {base tb num dm pl pc B m i x c : Nat} {pp p' : Option Addr} {c' : Nat} {D D' : List Nat} {s s' : RSt} {e : Dtn} {r : Option (Option Dtn)} {n : Rd}
/-- The state with a new child. -/
def upC (s : RSt) (x c : Nat) (n : Rd) (p' : Option Addr) (c' : Nat) (kids' : List Nat) : RSt := upR (upR s c n) x { s x with p := p', c := c', kids := kids' }
theorem upC_x : upC s x c n p' c' D x = { s x with p := p', c := c', kids := D } := upR_same _ _ _
theorem upC_c (h : c ≠ x) : upC s x c n p' c' D c = n := by unfold upC; rw [upR_ne h, upR_same]
theorem upC_ne {y : Nat} (h : y ≠ x) (h' : y ≠ c) : upC s x c n p' c' D y = s y := by unfold upC; rw [upR_ne h, upR_ne h']
theorem neD {y : Nat} (nD : c ∉ D) (nt : c ≠ tb) (h : y = tb ∨ y ∈ D) : y ≠ c := fun e => by
  rcases h with h | h
  · exact nt (e ▸ h)
  · exact nD (e ▸ h)
structure Frsh (tb x c : Nat) (D : List Nat) (s : RSt) (m : Nat) : Prop where
  nD : c ∉ D
  nt : c ≠ tb
  cx : c ≠ x
  old : ∀ y ∈ rch (m + 1) s x, y ∈ D
theorem Frsh.of (h : Kd tb D s) (hi : RIn tb B (m + 1) x D s) (nD : c ∉ D) (nt : c ≠ tb) : Frsh tb x c D s m :=
  ⟨nD, nt, (neD nD nt hi.hx).symm, rch_D _ h hi.hx⟩
/-- Lists of old children look as they did. -/
theorem Frsh.same (f : Frsh tb x c D s m) (hi : RIn tb B (m + 1) x D s) {K A : List Nat} (hA : ∀ a ∈ A, a ∈ (s x).kids) : lvl m (upC s x c n p' c' K) A = lvl m s A ∧ rcl m (upC s x c n p' c' K) A = rcl m s A :=
  lvl_congr fun y hy => by
    obtain ⟨a, ha, hy⟩ := List.mem_flatMap.1 hy
    have hyx : y ∈ rch (m + 1) s x := List.mem_flatMap.2 ⟨a, hA a ha, hy⟩
    exact upC_ne (fun e => (List.nodup_cons.1 hi.nd).1 (e ▸ hyx)) fun e => f.nD (e ▸ f.old y hyx)
theorem rch_nil {m : Nat} {s : RSt} (h : (s c).kids = []) : rch m s c = [] := by
  cases m with
  | zero => rfl
  | succ m =>
    show (s c).kids.flatMap _ = []
    rw [h]; rfl
/-- The new child: what is asked of it. -/
theorem RIn.fresh (h : Kd tb D s) (hi : RIn tb B (m + 1 + 1) x D s) (nD : c ∉ D) (nt : c ≠ tb) (hk : n.kids = []) {j : Nat} :
    RIn tb B (m + 1) c (c :: D) (upC s x c n p' c' ((s x).kids.take j ++ c :: (s x).kids.drop j)) := by
  have f := Frsh.of h hi nD nt
  have hc := upC_c (n := n) (p' := p') (c' := c') (D := (s x).kids.take j ++ c :: (s x).kids.drop j) (s := s) f.cx
  generalize hK : (s x).kids.take j ++ c :: (s x).kids.drop j = K at *
  have hkc : (upC s x c n p' c' K c).kids = [] := by rw [hc]; exact hk
  have hr : rch (m + 1) (upC s x c n p' c' K) c = [] := rch_nil hkc
  have hKl : K.length = (s x).kids.length + 1 := by rw [← hK]; simp; omega
  have len : ∀ b, (b = tb ∨ b ∈ c :: D) → (upC s x c n p' c' K b).kids.length ≤ B + 1 := fun b hb => by
    by_cases e1 : b = x
    · rw [e1, upC_x]
      show K.length ≤ _
      have := hi.b2 x List.mem_cons_self
      omega
    · by_cases e2 : b = c
      · rw [e2, hkc]; exact Nat.zero_le _
      · rw [upC_ne e1 e2]
        refine hi.b1 b (hb.imp id fun hb => ?_)
        rcases List.mem_cons.1 hb with h | h
        · exact absurd h e2
        · exact h
  refine ⟨.inr List.mem_cons_self, ?_, ?_, len, fun b hb => ?_⟩
  · rw [hr]; simp
  · have e1 : absN (m + 1) (upC s x c n p' c' K) c = ([] : List (Int × ON (Option Dtn) m)) := by
      show (upC s x c n p' c' K c).kids.map _ = _
      rw [hkc]; rfl
    rw [e1]
    exact ⟨List.Pairwise.nil, fun p hp => by cases hp⟩
  · rw [hr] at hb
    have : b = c := by simpa using hb
    rw [this, hkc]; exact Nat.zero_le _
/-- From the child, which is new, to its node. -/
theorem RPost.fresh (h : Kd tb D s) (hi : RIn tb B (m + 1 + 1) x D s) (nD : c ∉ D) (nt : c ≠ tb) (hk : n.kids = []) (hn : n.v = plI e.pos i)
    (hno : ∀ old, (s x).kids[lbd (plI e.pos i) (keysR s x)]? = some old → (s old).v ≠ plI e.pos i)
    (p : RPost tb B (m + 1) (i + 1) e c (c :: D) (upC s x c n p' c' ((s x).kids.take (lbd (plI e.pos i) (keysR s x)) ++ c :: (s x).kids.drop (lbd (plI e.pos i) (keysR s x)))) D' s' r) :
    RPost tb B (m + 1 + 1) i e x D s D' s' r := by
  have f := Frsh.of h hi nD nt
  generalize hjj : lbd (plI e.pos i) (keysR s x) = j at *
  have hc := upC_c (n := n) (p' := p') (c' := c') (D := (s x).kids.take j ++ c :: (s x).kids.drop j) (s := s) f.cx
  have hxx := upC_x (n := n) (p' := p') (c' := c') (c := c) (x := x) (D := (s x).kids.take j ++ c :: (s x).kids.drop j) (s := s)
  obtain ⟨sA1, sA2⟩ := f.same hi (n := n) (p' := p') (c' := c') (K := (s x).kids.take j ++ c :: (s x).kids.drop j) (A := (s x).kids.take j) fun a ha => List.mem_of_mem_take ha
  obtain ⟨sB1, sB2⟩ := f.same hi (n := n) (p' := p') (c' := c') (K := (s x).kids.take j ++ c :: (s x).kids.drop j) (A := (s x).kids.drop j) fun a ha => List.mem_of_mem_drop ha
  generalize hs1 : upC s x c n p' c' ((s x).kids.take j ++ c :: (s x).kids.drop j) = s1 at *
  have hkc : (s1 c).kids = [] := by rw [hc]; exact hk
  have hrc : rch (m + 1) s1 c = [] := rch_nil hkc
  have hkx : (s1 x).kids = (s x).kids.take j ++ c :: (s x).kids.drop j := by rw [hxx]
  have hr0 : rch (m + 1 + 1) s x = rcl (m + 1) s ((s x).kids.take j) ++ ([] ++ rcl (m + 1) s ((s x).kids.drop j)) := by
    show rcl (m + 1) s (s x).kids = _
    rw [List.nil_append, ← rcl_append, List.take_append_drop]
  have hr1 : rch (m + 1 + 1) s1 x = rcl (m + 1) s ((s x).kids.take j) ++ ([c] ++ rcl (m + 1) s ((s x).kids.drop j)) := by
    show rcl (m + 1) s1 (s1 x).kids = _
    rw [hkx, rcl_append, rcl_cons, hrc, sA2, sB2]
  have hnc : c ∉ x :: rch (m + 1 + 1) s x := fun hc => by
    rcases List.mem_cons.1 hc with h | h
    · exact f.cx h
    · exact nD (f.old c h)
  have nd1 : (x :: rch (m + 1 + 1) s1 x).Nodup := by
    rw [hr1]
    have h0 := hi.nd
    rw [hr0] at h0 hnc
    exact nodup_mid h0 (by simp) fun y hy => .inr (by rw [List.mem_singleton.1 hy]; exact hnc)
  have mem1 : ∀ y, y ∈ rch (m + 1 + 1) s1 x → y = c ∨ y ∈ rch (m + 1 + 1) s x := fun y hy => by
    rw [hr1] at hy; rw [hr0]
    rcases List.mem_append.1 hy with hy | hy
    · exact .inr (List.mem_append_left _ hy)
    · rcases List.mem_append.1 hy with hy | hy
      · exact .inl (List.mem_singleton.1 hy)
      · exact .inr (List.mem_append_right _ (List.mem_append_right _ hy))
  have hD : ∀ y ∈ x :: rch (m + 1 + 1) s1 x, y = tb ∨ y ∈ c :: D := fun y hy => by
    rcases List.mem_cons.1 hy with rfl | hy
    · exact hi.hx.imp id fun h => List.mem_cons_of_mem _ h
    · rcases mem1 y hy with rfl | hy
      · exact .inr List.mem_cons_self
      · exact .inr (List.mem_cons_of_mem _ (f.old y hy))
  obtain ⟨c1, c2, c3, c4⟩ := child (s' := s') hkx nd1 (fun y hy h1 h2 => p.out y (hD y hy) h1 h2) p.v p.nd fun y hy => (p.rc y hy).imp id fun h hy => (hD y hy).elim h.2 h.1
  have e0 : absN (m + 1) s1 c = ([] : List (Int × ON (Option Dtn) m)) := by
    show (s1 c).kids.map _ = _
    rw [hkc]; rfl
  have hs : (lvl (m + 1) s (s x).kids).Pairwise (fun p q => p.1 < q.1) := hi.sr.1
  have hlb : lbd (plI e.pos i) ((lvl (m + 1) s (s x).kids).map Prod.fst) = j := by rw [lvl_fst]; exact hjj
  have key : ∀ (f : ON (Option Dtn) (m + 1) → ON (Option Dtn) (m + 1)) x0, lkp (plI e.pos i) (lvl (m + 1) s (s x).kids) = none ∧ insL (plI e.pos i) f x0 (lvl (m + 1) s (s x).kids) = (lvl (m + 1) s (s x).kids).take j ++ (plI e.pos i, x0) :: (lvl (m + 1) s (s x).kids).drop j := fun f x0 => by
    have := (ins_at (f := f) (x0 := x0) hs (v := plI e.pos i)).2 fun y hy => by
      rw [hlb] at hy
      unfold lvl at hy
      rw [List.getElem?_map] at hy
      obtain ⟨o, ho, he⟩ := Option.map_eq_some_iff.1 hy
      injection he with he _
      exact hno o ho he
    rw [hlb] at this; exact this
  have hg : getON (m + 1 + 1) (absN (m + 1 + 1) s x) (kyD e (m + 1 + 1) i) = none := by
    show (lkp (plI e.pos i) (lvl (m + 1) s (s x).kids)).bind _ = _
    rw [(key id (newON (m + 1) [] (some e))).1]; rfl
  have hg1 : getON (m + 1) (absN (m + 1) s1 c) (kyD e (m + 1) (i + 1)) = none := by rw [e0]; rfl
  refine ⟨fun b hb => p.sub b (List.mem_cons_of_mem _ hb), fun y hy h1 h2 => ?_, by rw [c1, hxx], by rw [c1, hxx], ?_, c3, fun y hy => ?_, p.b1, ?_⟩
  · have hyc : y ≠ c := neD nD nt hy
    rw [p.out y (hy.imp id fun h => List.mem_cons_of_mem _ h) hyc (by rw [hrc]; exact List.not_mem_nil), ← hs1]
    exact upC_ne h1 hyc
  · rw [c2, p.ab, e0, hc, hn, sA1, sB1]
    show _ = insL (plI e.pos i) (fun x => addON (m + 1) x (kyD e (m + 1) (i + 1)) (some e)) (newON (m + 1) (kyD e (m + 1) (i + 1)) (some e)) (lvl (m + 1) s (s x).kids)
    rw [(key _ _).2]
    unfold lvl
    rw [List.map_take, List.map_drop]
    rfl
  · rcases c4 y hy with h1 | h1
    · rcases mem1 y h1 with rfl | h1
      · exact .inr ⟨nD, nt⟩
      · exact .inl h1
    · rcases p.rc y h1 with h2 | h2
      · rw [hrc] at h2; cases h2
      · exact .inr ⟨fun hy => h2.1 (List.mem_cons_of_mem _ hy), h2.2⟩
  · rw [hg, ← p.gt, hg1]
/-- At the last level: a node is put into the list. -/
theorem RPost.put (h : Kd tb D s) (hi : RIn tb B (0 + 1) x D s) (nD : c ∉ D) (nt : c ≠ tb) (hk : n.kids = []) (hn : n.v = plI e.pos i) (he : n.e = some e)
    (hno : ∀ old, (s x).kids[lbd (plI e.pos i) (keysR s x)]? = some old → (s old).v ≠ plI e.pos i) :
    RPost tb B (0 + 1) i e x D s (c :: D) (upC s x c n p' c' ((s x).kids.take (lbd (plI e.pos i) (keysR s x)) ++ c :: (s x).kids.drop (lbd (plI e.pos i) (keysR s x)))) none := by
  have f := Frsh.of h hi nD nt
  generalize hjj : lbd (plI e.pos i) (keysR s x) = j at *
  have hc := upC_c (n := n) (p' := p') (c' := c') (D := (s x).kids.take j ++ c :: (s x).kids.drop j) (s := s) f.cx
  have hxx := upC_x (n := n) (p' := p') (c' := c') (c := c) (x := x) (D := (s x).kids.take j ++ c :: (s x).kids.drop j) (s := s)
  obtain ⟨sA1, sA2⟩ := f.same hi (n := n) (p' := p') (c' := c') (K := (s x).kids.take j ++ c :: (s x).kids.drop j) (A := (s x).kids.take j) fun a ha => List.mem_of_mem_take ha
  obtain ⟨sB1, sB2⟩ := f.same hi (n := n) (p' := p') (c' := c') (K := (s x).kids.take j ++ c :: (s x).kids.drop j) (A := (s x).kids.drop j) fun a ha => List.mem_of_mem_drop ha
  have hne : ∀ {y : Nat}, y ≠ x → y ≠ c → upC s x c n p' c' ((s x).kids.take j ++ c :: (s x).kids.drop j) y = s y := fun h h' => upC_ne h h'
  generalize hs1 : upC s x c n p' c' ((s x).kids.take j ++ c :: (s x).kids.drop j) = s1 at *
  have hkc : (s1 c).kids = [] := by rw [hc]; exact hk
  have hkx : (s1 x).kids = (s x).kids.take j ++ c :: (s x).kids.drop j := by rw [hxx]
  have hr0 : rch (0 + 1) s x = (s x).kids.take j ++ ([] ++ (s x).kids.drop j) := by
    show rcl 0 s (s x).kids = _
    rw [rcl0, List.nil_append, List.take_append_drop]
  have hr1 : rch (0 + 1) s1 x = (s x).kids.take j ++ ([c] ++ (s x).kids.drop j) := by
    show rcl 0 s1 (s1 x).kids = _
    rw [hkx, rcl0]; rfl
  have hnc : c ∉ x :: rch (0 + 1) s x := fun hc => by
    rcases List.mem_cons.1 hc with h | h
    · exact f.cx h
    · exact nD (f.old c h)
  have hs : (lvl 0 s (s x).kids).Pairwise (fun p q => p.1 < q.1) := hi.sr.1
  have hlb : lbd (plI e.pos i) ((lvl 0 s (s x).kids).map Prod.fst) = j := by rw [lvl_fst]; exact hjj
  have key : ∀ (f : ON (Option Dtn) 0 → ON (Option Dtn) 0) x0, lkp (plI e.pos i) (lvl 0 s (s x).kids) = none ∧ insL (plI e.pos i) f x0 (lvl 0 s (s x).kids) = (lvl 0 s (s x).kids).take j ++ (plI e.pos i, x0) :: (lvl 0 s (s x).kids).drop j := fun f x0 => by
    have := (ins_at (f := f) (x0 := x0) hs (v := plI e.pos i)).2 fun y hy => by
      rw [hlb] at hy
      unfold lvl at hy
      rw [List.getElem?_map] at hy
      obtain ⟨o, ho, he⟩ := Option.map_eq_some_iff.1 hy
      injection he with he _
      exact hno o ho he
    rw [hlb] at this; exact this
  refine ⟨fun b hb => List.mem_cons_of_mem _ hb, fun y hy h1 h2 => hne h1 (neD nD nt hy), by rw [hxx], by rw [hxx], ?_, ?_, fun y hy => ?_, fun b hb => ?_, ?_⟩
  · show lvl 0 s1 (s1 x).kids = insL (plI e.pos i) (fun x => addON 0 x [] (some e)) (newON 0 [] (some e)) (lvl 0 s (s x).kids)
    rw [(key _ _).2, hkx, lvl_append, lvl_cons, sA1, sB1, hc, hn]
    have : absN 0 s1 c = some e := by show (s1 c).e = _; rw [hc, he]
    rw [this]
    unfold lvl
    rw [List.map_take, List.map_drop]
    rfl
  · rw [hr1]
    have h0 := hi.nd
    rw [hr0] at h0 hnc
    exact nodup_mid h0 (by simp) fun y hy => .inr (by rw [List.mem_singleton.1 hy]; exact hnc)
  · rw [hr1] at hy
    rw [hr0]
    rcases List.mem_append.1 hy with hy | hy
    · exact .inl (List.mem_append_left _ hy)
    · rcases List.mem_append.1 hy with hy | hy
      · rw [List.mem_singleton.1 hy]; exact .inr ⟨nD, nt⟩
      · exact .inl (List.mem_append_right _ (List.mem_append_right _ hy))
  · by_cases e1 : b = x
    · rw [e1, hkx]
      have := hi.b2 x List.mem_cons_self
      simp; omega
    · by_cases e2 : b = c
      · rw [e2, hkc]; exact Nat.zero_le _
      · rw [hne e1 e2]
        refine hi.b1 b (hb.imp id fun hb => ?_)
        rcases List.mem_cons.1 hb with h | h
        · exact absurd h e2
        · exact h
  · show (lkp (plI e.pos i) (lvl 0 s (s x).kids)).bind _ = _
    rw [(key id (some e)).1]; rfl
/-- At the last level: a node is put in another's place. -/
theorem RPost.set (h : Kd tb D s) (hi : RIn tb B (0 + 1) x D s) (nD : c ∉ D) (nt : c ≠ tb) (hk : n.kids = []) (hn : n.v = plI e.pos i) (he : n.e = some e) {old : Nat}
    (ho : (s x).kids[lbd (plI e.pos i) (keysR s x)]? = some old) (hv : (s old).v = plI e.pos i) :
    RPost tb B (0 + 1) i e x D s (c :: D) (upC s x c n p' c' ((s x).kids.set (lbd (plI e.pos i) (keysR s x)) c)) (some (s old).e) := by
  have f := Frsh.of h hi nD nt
  obtain ⟨hjl, hjc⟩ := List.getElem?_eq_some_iff.1 ho
  generalize hjj : lbd (plI e.pos i) (keysR s x) = j at *
  have ek : (s x).kids.set j c = (s x).kids.take j ++ c :: (s x).kids.drop (j + 1) := List.set_eq_take_append_cons_drop.trans (if_pos hjl)
  have hko : (s x).kids = (s x).kids.take j ++ old :: (s x).kids.drop (j + 1) := by
    rw [← hjc, List.getElem_cons_drop, List.take_append_drop]
  rw [ek]
  have hc := upC_c (n := n) (p' := p') (c' := c') (D := (s x).kids.take j ++ c :: (s x).kids.drop (j + 1)) (s := s) f.cx
  have hxx := upC_x (n := n) (p' := p') (c' := c') (c := c) (x := x) (D := (s x).kids.take j ++ c :: (s x).kids.drop (j + 1)) (s := s)
  obtain ⟨sA1, sA2⟩ := f.same hi (n := n) (p' := p') (c' := c') (K := (s x).kids.take j ++ c :: (s x).kids.drop (j + 1)) (A := (s x).kids.take j) fun a ha => List.mem_of_mem_take ha
  obtain ⟨sB1, sB2⟩ := f.same hi (n := n) (p' := p') (c' := c') (K := (s x).kids.take j ++ c :: (s x).kids.drop (j + 1)) (A := (s x).kids.drop (j + 1)) fun a ha => List.mem_of_mem_drop ha
  have hne : ∀ {y : Nat}, y ≠ x → y ≠ c → upC s x c n p' c' ((s x).kids.take j ++ c :: (s x).kids.drop (j + 1)) y = s y := fun h h' => upC_ne h h'
  generalize hs1 : upC s x c n p' c' ((s x).kids.take j ++ c :: (s x).kids.drop (j + 1)) = s1 at *
  have hkc : (s1 c).kids = [] := by rw [hc]; exact hk
  have hkx : (s1 x).kids = (s x).kids.take j ++ c :: (s x).kids.drop (j + 1) := by rw [hxx]
  have hr0 : rch (0 + 1) s x = (s x).kids.take j ++ ([old] ++ (s x).kids.drop (j + 1)) := by
    show rcl 0 s (s x).kids = _
    rw [rcl0]; exact hko
  have hr1 : rch (0 + 1) s1 x = (s x).kids.take j ++ ([c] ++ (s x).kids.drop (j + 1)) := by
    show rcl 0 s1 (s1 x).kids = _
    rw [hkx, rcl0]; rfl
  have hnc : c ∉ x :: rch (0 + 1) s x := fun hc => by
    rcases List.mem_cons.1 hc with h | h
    · exact f.cx h
    · exact nD (f.old c h)
  have hom : old ∈ (s x).kids := List.mem_of_getElem? ho
  have hoD : old ∈ D := h x hi.hx old hom
  have hor : old ∈ rch (0 + 1) s x := List.mem_flatMap.2 ⟨old, hom, List.mem_cons_self⟩
  have hox : old ≠ x := fun e => (List.nodup_cons.1 hi.nd).1 (e ▸ hor)
  have hs : (lvl 0 s (s x).kids).Pairwise (fun p q => p.1 < q.1) := hi.sr.1
  have hlb : lbd (plI e.pos i) ((lvl 0 s (s x).kids).map Prod.fst) = j := by rw [lvl_fst]; exact hjj
  have hL : (lvl 0 s (s x).kids)[j]? = some (plI e.pos i, absN 0 s old) := by
    unfold lvl; rw [List.getElem?_map, ho, ← hv]; rfl
  have key : ∀ (f : ON (Option Dtn) 0 → ON (Option Dtn) 0) x0, lkp (plI e.pos i) (lvl 0 s (s x).kids) = some (absN 0 s old) ∧ insL (plI e.pos i) f x0 (lvl 0 s (s x).kids) = (lvl 0 s (s x).kids).set j (plI e.pos i, f (absN 0 s old)) := fun f x0 => by
    have := (ins_at (f := f) (x0 := x0) hs (v := plI e.pos i)).1 (absN 0 s old) (by rw [hlb]; exact hL)
    rw [hlb] at this; exact this
  refine ⟨fun b hb => List.mem_cons_of_mem _ hb, fun y hy h1 h2 => hne h1 (neD nD nt hy), by rw [hxx], by rw [hxx], ?_, ?_, fun y hy => ?_, fun b hb => ?_, ?_⟩
  · show lvl 0 s1 (s1 x).kids = insL (plI e.pos i) (fun x => addON 0 x [] (some e)) (newON 0 [] (some e)) (lvl 0 s (s x).kids)
    rw [(key _ _).2, hkx, lvl_append, lvl_cons, sA1, sB1, hc, hn]
    have : absN 0 s1 c = some e := by show (s1 c).e = _; rw [hc, he]
    rw [this]
    conv => rhs; rw [hko]
    rw [lvl_append, lvl_cons, List.set_append_right _ _ (by unfold lvl; simp; omega)]
    have : j - (lvl 0 s ((s x).kids.take j)).length = 0 := by unfold lvl; simp; omega
    rw [this]; rfl
  · rw [hr1]
    have h0 := hi.nd
    rw [hr0] at h0 hnc
    exact nodup_mid h0 (by simp) fun y hy => .inr (by rw [List.mem_singleton.1 hy]; exact hnc)
  · rw [hr1] at hy
    rw [hr0]
    rcases List.mem_append.1 hy with hy | hy
    · exact .inl (List.mem_append_left _ hy)
    · rcases List.mem_append.1 hy with hy | hy
      · rw [List.mem_singleton.1 hy]; exact .inr ⟨nD, nt⟩
      · exact .inl (List.mem_append_right _ (List.mem_append_right _ hy))
  · by_cases e1 : b = x
    · rw [e1, hkx]
      have := hi.b2 x List.mem_cons_self
      simp; omega
    · by_cases e2 : b = c
      · rw [e2, hkc]; exact Nat.zero_le _
      · rw [hne e1 e2]
        refine hi.b1 b (hb.imp id fun hb => ?_)
        rcases List.mem_cons.1 hb with h | h
        · exact absurd h e2
        · exact h
  · show (lkp (plI e.pos i) (lvl 0 s (s x).kids)).bind _ = _
    rw [(key id (some e)).1]; rfl
/-- At the last level: an entry is written over. -/
theorem RPost.over {y : Rd} (h : Kd tb D s) (hi : RIn tb B (0 + 1) x D s) {old : Nat} (hy : y.v = (s old).v) (hyk : y.kids = (s old).kids) (hye : y.e = some e)
    (ho : (s x).kids[lbd (plI e.pos i) (keysR s x)]? = some old) (hv : (s old).v = plI e.pos i) :
    RPost tb B (0 + 1) i e x D s D (upR s old y) (some (s old).e) := by
  obtain ⟨hjl, hjc⟩ := List.getElem?_eq_some_iff.1 ho
  generalize hjj : lbd (plI e.pos i) (keysR s x) = j at *
  have hom : old ∈ (s x).kids := List.mem_of_getElem? ho
  have hoD : old ∈ D := h x hi.hx old hom
  have hko : (s x).kids = (s x).kids.take j ++ old :: (s x).kids.drop (j + 1) := by
    rw [← hjc, List.getElem_cons_drop, List.take_append_drop]
  have hor : old ∈ rch (0 + 1) s x := List.mem_flatMap.2 ⟨old, hom, List.mem_cons_self⟩
  have hox : old ≠ x := fun e => (List.nodup_cons.1 hi.nd).1 (e ▸ hor)
  have hx' : upR s old y x = s x := upR_ne (Ne.symm hox)
  have so : upR s old y old = y := upR_same _ _ _
  have hr : rch (0 + 1) (upR s old y) x = rch (0 + 1) s x := by
    show rcl 0 (upR s old y) (upR s old y x).kids = rcl 0 s (s x).kids
    rw [hx', rcl0, rcl0]
  have hnd := (List.nodup_cons.1 hi.nd).2
  have hnd : (rcl 0 s (s x).kids).Nodup := hnd
  rw [rcl0, hko] at hnd
  obtain ⟨n1, n2, n3⟩ := List.nodup_append.1 hnd
  have oA : ∀ a ∈ (s x).kids.take j, a ≠ old := fun a ha e => n3 a ha old List.mem_cons_self e
  have oB : ∀ a ∈ (s x).kids.drop (j + 1), a ≠ old := fun a ha e => (List.nodup_cons.1 n2).1 (e ▸ ha)
  have sA : lvl 0 (upR s old y) ((s x).kids.take j) = lvl 0 s ((s x).kids.take j) := (lvl_congr fun z hz => by rw [rcl0] at hz; exact upR_ne (oA z hz)).1
  have sB : lvl 0 (upR s old y) ((s x).kids.drop (j + 1)) = lvl 0 s ((s x).kids.drop (j + 1)) := (lvl_congr fun z hz => by rw [rcl0] at hz; exact upR_ne (oB z hz)).1
  have hs : (lvl 0 s (s x).kids).Pairwise (fun p q => p.1 < q.1) := hi.sr.1
  have hlb : lbd (plI e.pos i) ((lvl 0 s (s x).kids).map Prod.fst) = j := by rw [lvl_fst]; exact hjj
  have hL : (lvl 0 s (s x).kids)[j]? = some (plI e.pos i, absN 0 s old) := by
    unfold lvl; rw [List.getElem?_map, ho, ← hv]; rfl
  have key : ∀ (f : ON (Option Dtn) 0 → ON (Option Dtn) 0) x0, lkp (plI e.pos i) (lvl 0 s (s x).kids) = some (absN 0 s old) ∧ insL (plI e.pos i) f x0 (lvl 0 s (s x).kids) = (lvl 0 s (s x).kids).set j (plI e.pos i, f (absN 0 s old)) := fun f x0 => by
    have := (ins_at (f := f) (x0 := x0) hs (v := plI e.pos i)).1 (absN 0 s old) (by rw [hlb]; exact hL)
    rw [hlb] at this; exact this
  have kid : ∀ b, (upR s old y b).kids = (s b).kids := fun b => by
    by_cases e1 : b = old
    · rw [e1, so]; exact hyk
    · rw [upR_ne e1]
  refine ⟨fun b hb => hb, fun z hz h1 h2 => upR_ne fun e => h2 (e ▸ hor), by rw [hx'], by rw [hx'], ?_, by rw [hr]; exact hi.nd, fun z hz => .inl (hr ▸ hz), fun b hb => by rw [kid]; exact hi.b1 b hb, ?_⟩
  · show lvl 0 (upR s old y) (upR s old y x).kids = insL (plI e.pos i) (fun x => addON 0 x [] (some e)) (newON 0 [] (some e)) (lvl 0 s (s x).kids)
    rw [(key _ _).2, hx']
    conv => lhs; rw [hko]
    rw [lvl_append, lvl_cons, sA, sB, so, hy, hv]
    have : absN 0 (upR s old y) old = some e := by show (upR s old y old).e = _; rw [so, hye]
    rw [this]
    conv => rhs; rw [hko]
    rw [lvl_append, lvl_cons, List.set_append_right _ _ (by unfold lvl; simp; omega)]
    have : j - (lvl 0 s ((s x).kids.take j)).length = 0 := by unfold lvl; simp; omega
    rw [this]; rfl
  · show (lkp (plI e.pos i) (lvl 0 s (s x).kids)).bind _ = _
    rw [(key id (some e)).1]; rfl
end
end Go.Proofs.YtfokodpnoiilbaaGreat.E

namespace Go.Proofs.YtfokodpnoiilbaaGreat.E
open Go
set_option linter.unusedSimpArgs false
set_option linter.unusedVariables false
set_option maxRecDepth 100000
set_option maxHeartbeats 8000000

theorem Fy.new {base : Nat} {w w1 w2 : World} {S : Nat → Prop} : Fy base w w1 → Fr S w1 w2 → (∀ b, S b → w.heap.size ≤ b) → Fy base w w2 := fun ⟨S0, f, h, g⟩ f2 hS => ⟨S0, f.trans f2 fun y hy => .inr (hS y hy), h, g⟩
theorem Fy.size {base : Nat} {w w1 : World} : Fy base w w1 → w.heap.size ≤ w1.heap.size := fun ⟨S0, f, h⟩ => f.size
theorem Fy.own {base : Nat} {w w' : World} {e : TypeId} {p : Option Addr} {l c : Nat} {vs : List Value} (h : Own w e p l c vs) (f : Fy base w w') (ht : e ≠ 175 ∧ e ≠ 97 ∧ e ≠ 172) : Own w' e p l c vs := by
  obtain ⟨S, f, hS, _⟩ := f
  refine h.fr f fun b hb hs => ?_
  obtain ⟨us, hu⟩ := h.blk hb
  have := hS b e us hs hu
  simp only [List.mem_cons, List.not_mem_nil, or_false] at this
  rcases this with e | e | e
  · exact ht.1 e
  · exact ht.2.1 e
  · exact ht.2.2 e
theorem kyD_pos {e e' : Dtn} (h : e.pos = e'.pos) : ∀ m i, kyD e m i = kyD e' m i
  | 0, _ => rfl
  | m + 1, i => by unfold kyD; rw [h, kyD_pos h m]
theorem kyD_len (e : Dtn) : ∀ m i, (kyD e m i).length = m
  | 0, _ => rfl
  | m + 1, i => by unfold kyD; rw [List.length_cons, kyD_len e m]
section
variable {w : World} {k : Value → W} {base tb num dm pl pc B : Nat} {pp : Option Addr} {D : List Nat} {s : RSt} {x : Nat}
theorem RM.numT {w' : World} {num' : Nat} (h : RM w base tb num dm pp pl pc D s) (f : Fr (fun y => y = tb) w w') (b : Blk w' tb 97 (topc (s tb) num' dm pp pl pc)) : RM w' base tb num' dm pp pl pc D s :=
  ⟨fun b hb => (h.nodes b hb).fr f fun e => h.tbD (e ▸ hb), b, fun b hb => (h.own b hb).fr f fun y hy e => h.own_ne hb (.inl rfl) y hy e, h.dj, h.kd, fun b hb x hx => (h.ok b hb x hx).fr f fun y u us hs hu => by
    have hs : y = tb := hs
    subst hs
    have := (hu.unique h.top).1
    rw [this]; decide, h.lo⟩
/-- What add answers: a node whose entry was there. -/
def Rr (D' : List Nat) (s' : RSt) (g : Option (Option Dtn)) (r : Option Nat) : Prop := (r = none ∧ g = none) ∨ ∃ o, r = some o ∧ o ∈ D' ∧ g = some (s' o).e
theorem keys_new {c : Nat} {n : Rd} (h : RM w base tb num dm pp pl pc D s) (hx : x = tb ∨ x ∈ D) (nD : c ∉ D) (nt : c ≠ tb) : keysR (upR s c n) x = keysR s x := by
  unfold keysR
  rw [upR_ne (neD nD nt hx)]
  exact List.map_congr_left fun a ha => by rw [upR_ne (neD nD nt (.inr (h.kd x hx a ha)))]
/-- orderedTree.add. -/
theorem F95_spec {e : Dtn} (h : RM w base tb num dm pp pl pc D s) (hi : RIn tb B dm tb D s) (he : DtOk w e) (hd1 : 1 ≤ dm) (hdm : dm < 1000) (hB : B < 90000) (hn : num < 1000000000)
    (hk : ∀ w' s' D' g r, RPost tb B dm 1 e tb D s D' s' g → Rr D' s' g r → RM w' base tb (num + if r = none then 1 else 0) dm pp pl pc D' s' → Fy base w w' → k (.pointer (r.map fun o => ⟨o, 0, none⟩)) w') :
    F95 k (some ⟨tb, 0, none⟩) e.v w := by
  unfold F95
  rw [NN_mk]
  refine F95_L1_rule (I := fun ot en li i w0 => ∃ m x D s, ot = some ⟨tb, 0, none⟩ ∧ en = e.v ∧ li = la tb x ∧ m + 1 ≤ dm ∧ i = ((dm - m : Nat) : Int) ∧ RM w0 base tb num dm pp pl pc D s ∧ RIn tb B (m + 1) x D s ∧ DtOk w0 e ∧ ∀ w' s' D' g r, RPost tb B (m + 1) (dm - m) e x D s D' s' g → Rr D' s' g r → RM w' base tb (num + if r = none then 1 else 0) dm pp pl pc D' s' → Fy base w0 w' → k (.pointer (r.map fun o => ⟨o, 0, none⟩)) w')
    (μ := fun ot en li i w0 => (dm + 1 - i : Int).toNat) ?_ ⟨dm - 1, tb, D, s, rfl, rfl, (if_pos rfl).symm, by omega, by rw [show dm - (dm - 1) = 1 by omega]; rfl, h, by rw [show dm - 1 + 1 = dm by omega]; exact hi, he, by rw [show dm - 1 + 1 = dm by omega, show dm - (dm - 1) = 1 by omega]; exact hk⟩
  rintro _ _ _ _ w0 ⟨m, x, D, s, rfl, rfl, rfl, hm, rfl, h, hi, he, hk⟩
  unfold F95_L1
  simp only [NN_mk, add_mk, Nat.zero_add]
  refine load_int (i := 2) h.top rfl ?_
  rw [decide_eq_true (show ((dm - m : Nat) : Int) ≤ ((dm : Nat) : Int) by omega), BIf_true]
  refine load_int (i := 2) h.top rfl ?_
  have hkl : (s x).kids.length < 100000 := by have := hi.b2 x List.mem_cons_self; omega
  cases m with
  | zero =>
    refine F103_call (F103_yes (by omega) (back_bool ?_))
    rw [BIf_true]
    refine val_intro he (by omega) fun w1 f1 => ?_
    have h1 := h.fr0 f1
    rw [Nat.sub_zero] at hk ⊢
    refine F105_call (F105_spec h1 (he.fr0 f1) fun w2 c n nD nt nl nv nk ne h2 f2 => back_ptr ?_)
    have ne : n.e = some e := by rw [ne]; rfl
    have hxc : x ≠ c := neD nD nt hi.hx
    have hx2 : x = tb ∨ x ∈ c :: D := hi.hx.imp id fun h => List.mem_cons_of_mem _ h
    have es : upR s c n x = s x := upR_ne hxc
    have ec : upR s c n c = n := upR_same _ _ _
    have ek := keys_new (n := n) h1 hi.hx nD nt
    have fin : ∀ (w' : World) (s' : RSt) (g : Option (Option Dtn)) (r : Option Nat), RPost tb B (0 + 1) dm e x D s (c :: D) s' g → Rr (c :: D) s' g r → RM w' base tb num dm pp pl pc (c :: D) s' → Fy base w0 w' →
        (BIf (r.map fun o => (⟨o, 0, none⟩ : Addr)).isNone (
          NN (some (⟨tb, 0, none⟩ : Addr)) fun a17 =>
          LoadT (.int .u64) (a17.add 1) fun x18 =>
          Store1 (a17.add 1) (.int .u64 (addI .u64 x18 1)) <|
          k (.pointer (r.map fun o => ⟨o, 0, none⟩))) (
          k (.pointer (r.map fun o => ⟨o, 0, none⟩)))) w' := fun w' s' g r hp hr h' f' => by
      cases r with
      | none =>
        rw [show (Option.map (fun o : Nat => (⟨o, 0, none⟩ : Addr)) none).isNone = true from rfl, BIf_true, NN_mk]
        simp only [add_mk, Nat.zero_add]
        refine load_int (i := 1) h'.top rfl ?_
        rw [addI_u64 (by omega) (by omega)]
        refine store_intro (i := 1) h'.top (by simp [topc]) rfl fun w3 b3 f3 z3 => ?_
        have b3 : Blk w3 tb 97 (topc (s' tb) (num + 1) dm pp pl pc) := by
          have e1 : ((num : Nat) : Int) + 1 = ((num + 1 : Nat) : Int) := by omega
          rw [e1] at b3; exact b3
        exact hk w3 s' (c :: D) g none hp hr (h'.numT f3 b3) (f'.trans (Fy.of f3 (fun b u us hb hu => by have := Tys.one h'.top b u us hb hu; simp at this; rw [this]; simp) fun b hb => by have hb : b = tb := hb; have := (h'.lo tb (.inl rfl)).1; omega))
      | some o =>
        rw [show (Option.map (fun o : Nat => (⟨o, 0, none⟩ : Addr)) (some o)).isNone = false from rfl, BIf_false]
        exact hk w' s' (c :: D) g (some o) hp hr h' f'
    have fy1 : Fy base w0 w2 := .of0 (f1.trans f2 fun _ h => h.elim)
    refine F104_call (F104_spec h2 hx2 List.mem_cons_self (by rw [ek]; exact sr_keys hi.sr) (by rw [es]; exact hkl) (fun hno w' p' c' h' f' => back_ptr ?_) fun old ho hv w' h' f' => back_ptr ?_)
    · rw [ec, es, ek, nv] at h' hno
      refine fin w' _ none none (RPost.put (p' := p') (c' := c') h.kd hi nD nt nk nv ne fun old hold hv => hno old hold ?_) (.inl ⟨rfl, rfl⟩) h' (fy1.trans (h2.fy hx2 f'))
      rw [upR_ne (neD nD nt (.inr (h.kd x hi.hx old (List.mem_of_getElem? hold))))]
      exact hv
    · rw [ec, es, ek, nv] at h'
      rw [ec, es, ek, nv] at ho
      rw [ec, nv, upR_ne (neD nD nt (.inr (h.kd x hi.hx old (List.mem_of_getElem? ho))))] at hv
      have := RPost.set (p' := (s x).p) (c' := (s x).c) h.kd hi nD nt nk nv ne ho hv
      refine fin w' _ (some (s old).e) (some old) this (.inr ⟨old, rfl, List.mem_cons_of_mem _ (h.kd x hi.hx old (List.mem_of_getElem? ho)), ?_⟩) h' (fy1.trans (h2.fy hx2 f'))
      have hom := List.mem_of_getElem? ho
      have hor : old ∈ rch (0 + 1) s x := List.mem_flatMap.2 ⟨old, hom, List.mem_cons_self⟩
      have hox : old ≠ x := fun e => (List.nodup_cons.1 hi.nd).1 (e ▸ hor)
      rw [upC_ne hox (neD nD nt (.inr (h.kd x hi.hx old hom)))]
  | succ m =>
    refine F103_call (F103_no (by omega) (by omega) (back_bool ?_))
    rw [BIf_false]
    refine load_int (i := 2) h.top rfl ?_
    have hii : dm - (m + 1) + 1 = dm - m := by omega
    have hadd : addI .u64 ((dm - (m + 1) : Nat) : Int) 1 = ((dm - m : Nat) : Int) := by rw [addI_u64 (by omega) (by omega)]; omega
    refine F106_call (F106_spec h hi.hx he (by omega) (by omega) (sr_keys hi.sr) hkl (fun old ho hv w' h' f' => back_pb ?_) fun hno w' c n p' c' nD nt nv nk ne h' f' => back_pb ?_)
    · rw [NN_mk, add_mk, Nat.zero_add, hadd]
      have hoD : old ∈ D := h.kd x hi.hx old (List.mem_of_getElem? ho)
      have hot : old ≠ tb := fun e => h.tbD (e ▸ hoD)
      refine ⟨⟨m, old, D, s, by trivial, by trivial, (if_neg hot).symm, by omega, by trivial, h', RIn.found h.kd hi (List.mem_of_getElem? ho), he.fr0 f', fun w1 s1 D1 g r hp hr h1 f1 => ?_⟩, by omega⟩
      exact hk w1 s1 D1 g r (RPost.found h.kd hi ho hv (by rw [hii]; exact hp)) hr h1 ((Fy.of0 f').trans f1)
    · rw [NN_mk, add_mk, Nat.zero_add, hadd]
      refine ⟨⟨m, c, c :: D, _, by trivial, by trivial, (if_neg nt).symm, by omega, by trivial, h', RIn.fresh (p' := p') (c' := c') h.kd hi nD nt nk, f'.dt he, fun w1 s1 D1 g r hp hr h1 f1 => ?_⟩, by omega⟩
      exact hk w1 s1 D1 g r (RPost.fresh h.kd hi nD nt nk nv hno (by rw [hii]; exact hp)) hr h1 (f'.trans f1)
end
end Go.Proofs.YtfokodpnoiilbaaGreat.E

namespace Go.Proofs.YtfokodpnoiilbaaGreat.E
open Go
set_option linter.unusedSimpArgs false
set_option linter.unusedVariables false
set_option maxRecDepth 100000
set_option maxHeartbeats 8000000

/-! ## Plain -/
section
variable {α : Type}
/-- Elements are noted as long as one is told to go on. -/
def goOn (go : List α → Bool) : List α → List α → List α × Bool
  | acc, [] => (acc, true)
  | acc, x :: xs => if go (acc ++ [x]) = true then goOn go (acc ++ [x]) xs else (acc ++ [x], false)
theorem goOn_one (go : List α → Bool) (acc : List α) (x : α) : goOn go acc [x] = (acc ++ [x], go (acc ++ [x])) := by
  show (if go (acc ++ [x]) = true then (acc ++ [x], true) else (acc ++ [x], false)) = _
  cases go (acc ++ [x]) <;> rfl
theorem goOn_append (go : List α → Bool) : ∀ (xs acc ys : List α), goOn go acc (xs ++ ys) = if (goOn go acc xs).2 = true then goOn go (goOn go acc xs).1 ys else ((goOn go acc xs).1, false)
  | [], acc, ys => rfl
  | x :: xs, acc, ys => by
    show (if go (acc ++ [x]) = true then goOn go (acc ++ [x]) (xs ++ ys) else (acc ++ [x], false)) = _
    by_cases h : go (acc ++ [x]) = true
    · have e : goOn go acc (x :: xs) = goOn go (acc ++ [x]) xs := if_pos h
      rw [if_pos h, e, goOn_append go xs]
    · have e : goOn go acc (x :: xs) = (acc ++ [x], false) := if_neg h
      rw [if_neg h, e]; rfl
theorem goOn_all : ∀ (xs acc : List α), goOn (fun _ => true) acc xs = (acc ++ xs, true)
  | [], acc => by simp [goOn]
  | x :: xs, acc => by
    show goOn (fun _ => true) (acc ++ [x]) xs = _
    rw [goOn_all xs]; simp
theorem goOn_take (k : Nat) : ∀ (xs acc : List α), acc.length ≤ k → (goOn (fun l => decide (l.length ≤ k)) acc xs).1 = acc ++ xs.take (k + 1 - acc.length)
  | [], acc, h => by simp [goOn]
  | x :: xs, acc, h => by
    show (if decide ((acc ++ [x]).length ≤ k) = true then goOn _ (acc ++ [x]) xs else (acc ++ [x], false)).1 = _
    by_cases hl : acc.length + 1 ≤ k
    · rw [if_pos (by simp; exact hl), goOn_take k xs _ (by simp; exact hl)]
      have e : k + 1 - acc.length = (k + 1 - (acc ++ [x]).length) + 1 := by simp; omega
      rw [e, List.take_succ_cons]; simp
    · rw [if_neg (by simp; omega)]
      have e : k + 1 - acc.length = 0 + 1 := by omega
      rw [e, List.take_succ_cons]; rfl
theorem goOn_len (go : List α → Bool) : ∀ (xs acc : List α), (goOn go acc xs).1.length ≤ acc.length + xs.length
  | [], acc => Nat.le_refl _
  | x :: xs, acc => by
    show (if go (acc ++ [x]) = true then goOn go (acc ++ [x]) xs else (acc ++ [x], false)).1.length ≤ _
    split
    · have := goOn_len go xs (acc ++ [x])
      simp at this ⊢; omega
    · simp
def vis (lo hi : Nat → Int) : (n : Nat) → Nat → ON α n → List α
  | 0, _, e => [e]
  | n + 1, i, L => (((L : List (Int × ON α n)).drop (lbd (lo i) ((L : List (Int × ON α n)).map Prod.fst))).takeWhile fun p => decide (p.1 ≤ hi i)).flatMap fun p => vis lo hi n (i + 1) p.2
end
/-- Blocks of lists of entries turn, and no others. -/
def Ft (base : Nat) (w w' : World) : Prop := ∃ S, Fr S w w' ∧ Tys S w [70, 76] ∧ ∀ b, S b → base ≤ b
theorem Ft.of0 {base : Nat} {w w' : World} (f : Fr (fun _ => False) w w') : Ft base w w' := ⟨_, f, fun _ _ _ h => h.elim, fun _ h => h.elim⟩
theorem Ft.trans {base : Nat} {w w1 w2 : World} : Ft base w w1 → Ft base w1 w2 → Ft base w w2 := fun ⟨S, f, h, g⟩ ⟨S2, f2, h2, g2⟩ => ⟨fun y => S y ∨ S2 y, (f.mono fun y hy => .inl (.inl hy)).trans f2 fun y hy => .inl (.inr hy), fun b u us hb hB => by
  by_cases hS : S b
  · exact h b u us hS hB
  · rcases hb with hb | hb
    · exact h b u us hb hB
    · exact h2 b u us hb (hB.fr f hS), fun b hb => hb.elim (g b) (g2 b)⟩
theorem Ft.blk {base : Nat} {w w' : World} {b t : Nat} {us : List Value} (h : Blk w b t us) (f : Ft base w w') (ht : t ≠ 70 ∧ t ≠ 76) : Blk w' b t us := by
  obtain ⟨S, f, hS, _⟩ := f
  refine h.fr f fun hs => ?_
  have := hS b t us hs h
  simp only [List.mem_cons, List.not_mem_nil, or_false] at this
  rcases this with e | e
  · exact ht.1 e
  · exact ht.2 e
theorem Ft.rm {base base' : Nat} {w w' : World} {tb num dm pl pc : Nat} {pp : Option Addr} {D : List Nat} {s : RSt} (h : RM w base' tb num dm pp pl pc D s) (f : Ft base w w') : RM w' base' tb num dm pp pl pc D s := by
  obtain ⟨S, f, hS, _⟩ := f
  refine h.fr f fun b u us hs hB => ?_
  have := hS b u us hs hB
  simp only [List.mem_cons, List.not_mem_nil, or_false] at this
  rcases this with e | e <;> rw [e] <;> decide
theorem Ft.sl {base : Nat} {w w' : World} {p : Option Addr} {l : List Int} (h : Sl In64K w p l) (f : Ft base w w') : Sl In64K w' p l := by
  obtain ⟨S, f, hS, _⟩ := f
  exact h.fr f hS (by decide)
/-! ## The box -/
structure Bx where
  p : Option Addr
  c : Nat
  lo : List Int
  q : Option Addr
  d : Nat
  hi : List Int
def Bx.v (x : Bx) : Value := .iface 65 (.agg #[.slice x.p x.lo.length x.c, .slice x.q x.hi.length x.d, .int .u64 0])
def BxOk (w : World) (x : Bx) : Prop := Sl In64K w x.p x.lo ∧ Sl In64K w x.q x.hi ∧ x.lo.length < 1000 ∧ x.hi.length < 1000
theorem BxOk.fr0 {w w' : World} {x : Bx} (h : BxOk w x) (f : Fr (fun _ => False) w w') : BxOk w' x := ⟨h.1.fr0 f, h.2.1.fr0 f, h.2.2⟩
theorem BxOk.ft {base : Nat} {w w' : World} {x : Bx} (h : BxOk w x) (f : Ft base w w') : BxOk w' x := ⟨f.sl h.1, f.sl h.2.1, h.2.2⟩
theorem m_low (p q : Option Addr) (l c m d : Nat) (i j : Int) (w : World) : (callMethod (.iface 65 (.agg #[.slice p l c, .slice q m d, .int .u64 i])) "LowAtDimension" [.int .u64 j].toArray).run Tryz.prog w = .ok (.enter 83 #[.agg #[.slice p l c, .slice q m d, .int .u64 i], .int .u64 j]) w := by kernel_rfl
theorem m_high (p q : Option Addr) (l c m d : Nat) (i j : Int) (w : World) : (callMethod (.iface 65 (.agg #[.slice p l c, .slice q m d, .int .u64 i])) "HighAtDimension" [.int .u64 j].toArray).run Tryz.prog w = .ok (.enter 81 #[.agg #[.slice p l c, .slice q m d, .int .u64 i], .int .u64 j]) w := by kernel_rfl
theorem low_intro {w : World} {x : Bx} {i : Nat} {f : Int → W} (h : BxOk w x) (hd : i < 1000) (hk : ∀ w', Fr (fun _ => False) w w' → f (plI x.lo i) w') : NextT Tryz.prog (callMethod x.v "LowAtDimension" [.int .u64 ((i : Nat) : Int)].toArray) (.s (.one (.int .i64))) f w := by
  refine NextT_enterR (m_low _ _ _ _ _ _ _ _ w) (F83_calls ?_)
  unfold F83
  refine new_intro fun n w1 e1 b1 f1 z1 => load_slice (i := 0) b1 rfl ?_
  exact F84_call (F84_dt (h.fr0 f1).1 h.2.2.1 hd (back_int (back_int (hk w1 f1))))
theorem high_intro {w : World} {x : Bx} {i : Nat} {f : Int → W} (h : BxOk w x) (hd : i < 1000) (hk : ∀ w', Fr (fun _ => False) w w' → f (plI x.hi i) w') : NextT Tryz.prog (callMethod x.v "HighAtDimension" [.int .u64 ((i : Nat) : Int)].toArray) (.s (.one (.int .i64))) f w := by
  refine NextT_enterR (m_high _ _ _ _ _ _ _ _ w) (F81_calls ?_)
  unfold F81
  refine new_intro fun n w1 e1 b1 f1 z1 => load_slice (i := 1) b1 rfl ?_
  exact F84_call (F84_dt (h.fr0 f1).2.1 h.2.2.2 hd (back_int (back_int (hk w1 f1))))
theorem ent131 : ∀ args w, (callFunc 108 args).run Tryz.prog w = .ok (.enter 108 args) w := enters_of Tryz.func108 (by kernel_rfl) rfl
section
variable {base tb num dm pl pc B : Nat} {pp : Option Addr} {D : List Nat} {s : RSt}
def pick (s : RSt) (hi : Int) (l : List Nat) : List Nat := l.takeWhile fun c => decide ((s c).v ≤ hi)
/-- orderedNodes.apply. -/
theorem F107_spec {w : World} {k : Value → W} {x : Nat} {P : List (Option Dtn) → World → Prop} {go : List (Option Dtn) → Bool} {items : Nat → List (Option Dtn)} {fn : Value} {acc : List (Option Dtn)} {lo hi : Int} {N : Nat}
    (hP : ∀ acc w w', P acc w → Fr (fun _ => False) w w' → P acc w')
    (cb : ∀ acc c w (f : Bool → W), P acc w → acc.length + (items c).length ≤ N → RM w base tb num dm pp pl pc D s → c ∈ (s x).kids → (∀ w', P (goOn go acc (items c)).1 w' → Ft base w w' → f (goOn go acc (items c)).2 w') → NextT Tryz.prog (callV fn [.pointer (some ⟨c, 0, none⟩)].toArray) (.s (.one .bool)) f w)
    (h : RM w base tb num dm pp pl pc D s) (hx : x = tb ∨ x ∈ D) (hs : (keysR s x).Pairwise (· < ·)) (hl : (s x).kids.length < 100000) (p : P acc w) (hN : acc.length + ((pick s hi ((s x).kids.drop (lbd lo (keysR s x)))).flatMap items).length ≤ N)
    (hk : ∀ w', P (goOn go acc ((pick s hi ((s x).kids.drop (lbd lo (keysR s x)))).flatMap items)).1 w' → Ft base w w' → k (.bool (goOn go acc ((pick s hi ((s x).kids.drop (lbd lo (keysR s x)))).flatMap items)).2) w') :
    F107 k (s x).p (s x).kids.length (s x).c lo hi fn w := by
  have hle := lbd_le lo (keysR s x)
  have hkl : (keysR s x).length = (s x).kids.length := by unfold keysR; rw [List.length_map]
  unfold F107
  refine F111_call (F111_spec h hx hs hl fun w1 f1 => back_int ?_)
  rw [show lbd lo ((s x).kids.map fun c => (s c).v) = lbd lo (keysR s x) from rfl]
  generalize hj : lbd lo (keysR s x) = j at *
  have h1 := h.fr0 f1
  have p1 := hP _ _ _ p f1
  by_cases he : j = (s x).kids.length
  · rw [show (((j : Nat) : Int) == (((s x).kids.length : Nat) : Int)) = true by rw [beq_iff_eq]; omega, BIf_true]
    rw [he, List.drop_length] at hk
    exact hk w1 p1 (.of0 f1)
  · rw [show (((j : Nat) : Int) == (((s x).kids.length : Nat) : Int)) = false by rw [beq_eq_false_iff_ne]; omega, BIf_false]
    refine F107_L1_rule (I := fun np nl nc h' fv ix w' => np = (s x).p ∧ nl = (s x).kids.length ∧ nc = (s x).c ∧ h' = hi ∧ fv = fn ∧ ∃ (a : Nat) (acc' : List (Option Dtn)), ix = ((a : Nat) : Int) ∧ a ≤ (s x).kids.length ∧ RM w' base tb num dm pp pl pc D s ∧ P acc' w' ∧ Ft base w w' ∧ goOn go acc ((pick s hi ((s x).kids.drop j)).flatMap items) = goOn go acc' ((pick s hi ((s x).kids.drop a)).flatMap items) ∧ acc'.length + ((pick s hi ((s x).kids.drop a)).flatMap items).length ≤ N)
      (μ := fun np nl nc h' fv ix w' => (s x).kids.length - ix.toNat) ?_ ⟨rfl, rfl, rfl, rfl, rfl, j, acc, rfl, by omega, h1, p1, .of0 f1, rfl, hN⟩
    rintro np nl nc h' fv ix w2 ⟨e1, e2, e3, e4, e5, a, acc', rfl, ha, h2, p2, f2, hg, hN2⟩
    obtain rfl := e4.symm
    obtain rfl := e5.symm
    unfold F107_L1
    rw [e1, e2]
    by_cases hlt : a < (s x).kids.length
    · rw [decide_eq_true (show ((a : Nat) : Int) < (((s x).kids.length : Nat) : Int) by omega), BIf_true]
      have hc : (s x).kids[a]? = some (s x).kids[a] := List.getElem?_eq_getElem hlt
      have hd : (s x).kids.drop a = (s x).kids[a] :: (s x).kids.drop (a + 1) := List.drop_eq_getElem_cons hlt
      generalize (s x).kids[a] = c at hc hd
      have hcm : c ∈ (s x).kids := List.mem_of_getElem? hc
      have hcD : c ∈ D := h.kd x hx c hcm
      obtain ⟨q, rest, hp, hB, _, _⟩ := (h2.own x hx).get (by omega)
      have cellq : ∀ {f : Option Addr → W}, f (some ⟨c, 0, none⟩) w2 → LoadT .ptr ⟨q, a, none⟩ f w2 := fun hf => load_ptr hB (by rw [List.getElem?_append_left (by simp; omega), ptrs_get, hc]; rfl) hf
      rw [hp]
      simp only [NN_mk, Int.toNat_natCast, add_mk, Nat.zero_add]
      refine Req_iff.2 ⟨by omega, cellq ?_⟩
      simp only [NN_mk]
      refine load_int (i := 0) (h2.nodes c hcD) rfl ?_
      by_cases hv : (s c).v > hi
      · rw [decide_eq_true hv, BIf_true]
        have e : pick s hi ((s x).kids.drop a) = [] := by
          unfold pick; rw [hd, List.takeWhile_cons, if_neg (by simp; omega)]
        rw [e] at hg
        rw [hg] at hk
        exact hk w2 p2 f2
      · rw [decide_eq_false hv, BIf_false]
        refine Req_iff.2 ⟨by omega, cellq ?_⟩
        have e : pick s hi ((s x).kids.drop a) = c :: pick s hi ((s x).kids.drop (a + 1)) := by
          unfold pick; rw [hd, List.takeWhile_cons, if_pos (by simp; omega)]
        rw [e, List.flatMap_cons, goOn_append] at hg
        rw [e, List.flatMap_cons, List.length_append] at hN2
        have hgl := goOn_len go (items c) acc'
        refine cb acc' c w2 _ p2 (by omega) h2 hcm fun w3 p3 f3 => ?_
        cases hb : (goOn go acc' (items c)).2 with
        | false =>
          rw [hb, if_neg (by decide)] at hg
          rw [hg] at hk
          exact hk w3 p3 (f2.trans f3)
        | true =>
          rw [hb, if_pos rfl] at hg
          rw [show (!true) = false from rfl, BIf_false, addI_i64 (by omega) (by omega)]
          refine ⟨⟨by trivial, by trivial, e3, by trivial, by trivial, a + 1, _, by omega, hlt, f3.rm h2, p3, f2.trans f3, hg, by omega⟩, ?_⟩
          show (s x).kids.length - (((a : Nat) : Int) + 1).toNat < (s x).kids.length - ((a : Nat) : Int).toNat
          omega
    · rw [decide_eq_false (show ¬ ((a : Nat) : Int) < (((s x).kids.length : Nat) : Int) by omega), BIf_false]
      have : a = (s x).kids.length := by omega
      subst this
      rw [List.drop_length] at hg
      rw [hg] at hk
      exact hk w2 p2 f2
theorem vis_lvl (lo hi : Nat → Int) (m i x : Nat) : vis lo hi (m + 1) i (absN (m + 1) s x) = (pick s (hi i) ((s x).kids.drop (lbd (lo i) (keysR s x)))).flatMap fun c => vis lo hi m (i + 1) (absN m s c) := by
  show (((lvl m s (s x).kids).drop (lbd (lo i) ((lvl m s (s x).kids).map Prod.fst))).takeWhile fun p => decide (p.1 ≤ hi i)).flatMap (fun p => vis lo hi m (i + 1) p.2) = _
  rw [lvl_fst]
  unfold pick lvl keysR
  rw [← List.map_drop, List.takeWhile_map, List.flatMap_map]
  rfl
/-- What apply's callback does. -/
def Cb (P : List (Option Dtn) → World → Prop) (go : List (Option Dtn) → Bool) (fn : Value) (N base tb num dm : Nat) (pp : Option Addr) (pl pc : Nat) (D : List Nat) (s : RSt) : Prop :=
  ∀ acc c w (f : Bool → W), P acc w → acc.length < N → RM w base tb num dm pp pl pc D s → c ∈ D → (∀ w', P (acc ++ [(s c).e]) w' → Ft base w w' → f (go (acc ++ [(s c).e])) w') → NextT Tryz.prog (callV fn [.pointer (some ⟨c, 0, none⟩)].toArray) (.s (.one .bool)) f w
/-- orderedTree.apply. -/
theorem F96_spec {N : Nat} {bx : Bx} {go : List (Option Dtn) → Bool} {fn : Value} (hfn : oneC fn = true) (hdm : dm < 1000) : ∀ (m : Nat) {w : World} {k : Value → W} {x i : Nat} {P : List (Option Dtn) → World → Prop} {acc : List (Option Dtn)},
    i + m = dm → 1 ≤ i → (∀ acc w w', P acc w → Fr (fun _ => False) w w' → P acc w') → Cb P go fn N base tb num dm pp pl pc D s → RM w base tb num dm pp pl pc D s → (x = tb ∨ x ∈ D) → SrtN (m + 1) (absN (m + 1) s x) → (∀ b, (b = tb ∨ b ∈ D) → (s b).kids.length < 100000) → BxOk w bx → P acc w → acc.length + (vis (plI bx.lo) (plI bx.hi) (m + 1) i (absN (m + 1) s x)).length ≤ N →
    (∀ w', P (goOn go acc (vis (plI bx.lo) (plI bx.hi) (m + 1) i (absN (m + 1) s x))).1 w' → Ft base w w' → k (.bool (goOn go acc (vis (plI bx.lo) (plI bx.hi) (m + 1) i (absN (m + 1) s x))).2) w') →
    F96 k (some ⟨tb, 0, none⟩) (s x).p (s x).kids.length (s x).c bx.v ((i : Nat) : Int) fn w := fun m => by
  induction m with
  | zero =>
    intro w k x i P acc him hi1 hP cb h hx sr hl hb p hN hk
    unfold F96
    refine new_intro fun n6 w1 e1 b1 f1 z1 => Req_iff.2 ⟨rfl, new_intro fun n7 w2 e2 b2 f2 z2 => new_intro fun n8 w3 e3 b3 f3 z3 => Req_iff.2 ⟨hfn, new_intro fun n9 w4 e4 b4 f4 z4 => drw_intro fun w5 f5 z5 => ?_⟩⟩
    have f05 : Fr (fun _ => False) w w5 := (((f1.trans f2 fun _ h => h.elim).trans f3 fun _ h => h.elim).trans f4 fun _ h => h.elim).trans f5 fun _ h => h.elim
    have b7 : Blk w5 n7 84 [bx.v] := ((b2.fr f3 id).fr f4 id).fr f5 id
    have b8 : Blk w5 n8 29 [.int .u64 ((i : Nat) : Int)] := (b3.fr f4 id).fr f5 id
    have b6 : Blk w5 n6 81 [.pointer (some ⟨tb, 0, none⟩)] := (((b1.fr f2 id).fr f3 id).fr f4 id).fr f5 id
    have b9 : Blk w5 n9 177 [fn] := b4.fr f5 id
    refine load_any (i := 0) b7 rfl (load_int (i := 0) b8 rfl (load_any (i := 0) b7 rfl (load_int (i := 0) b8 rfl ?_)))
    refine low_intro (hb.fr0 f05) (by omega) fun w6 f6 => ?_
    refine chk (i := 0) (b8.fr f6 id) rfl (chk (i := 0) (b7.fr f6 id) rfl ?_)
    have f06 := f05.trans f6 fun _ h => h.elim
    refine high_intro (hb.fr0 f06) (by omega) fun w7 f7 => ?_
    refine chk (i := 0) ((b8.fr f6 id).fr f7 id) rfl (chk (i := 0) ((b7.fr f6 id).fr f7 id) rfl ?_)
    refine drw_intro fun w8 f8 z8 => ?_
    have f58 : Fr (fun _ => False) w5 w8 := (f6.trans f7 fun _ h => h.elim).trans f8 fun _ h => h.elim
    have f08 := f05.trans f58 fun _ h => h.elim
    refine load_ptr (i := 0) (b6.fr f58 id) rfl ?_
    simp only [NN_mk, add_mk, Nat.zero_add]
    have h8 := h.fr0 f08
    refine load_int (i := 2) h8.top rfl (load_int (i := 0) (b8.fr f58 id) rfl ?_)
    refine F103_call (F103_yes (by omega) (back_bool ?_))
    refine chk (i := 0) (b6.fr f58 id) rfl ?_
    rw [BIf_true]
    refine load_any (i := 0) (b9.fr f58 id) rfl ?_
    rw [vis_lvl] at hk hN
    refine F107_call (F107_spec (P := P) (go := go) (items := fun c => [(s c).e]) (acc := acc) hP (fun acc c w f p hn h hc hk => cb acc c w f p hn h (h.kd x hx c hc) fun w' p' f' => ?_) h8 hx (sr_keys sr) (hl x hx) (hP _ _ _ p f08) hN fun w9 p9 f9 => back_bool ?_)
    · rw [goOn_one] at hk
      exact hk w' p' f'
    · have := hk w9 p9 ((Ft.of0 f08).trans f9)
      have e : (goOn go acc ((pick s (plI bx.hi i) ((s x).kids.drop (lbd (plI bx.lo i) (keysR s x)))).flatMap fun c => [(s c).e])).2 = (goOn go acc ((pick s (plI bx.hi i) ((s x).kids.drop (lbd (plI bx.lo i) (keysR s x)))).flatMap fun c => vis (plI bx.lo) (plI bx.hi) 0 (i + 1) (absN 0 s c))).2 := rfl
      rw [e]
      generalize (goOn go acc ((pick s (plI bx.hi i) ((s x).kids.drop (lbd (plI bx.lo i) (keysR s x)))).flatMap fun c => vis (plI bx.lo) (plI bx.hi) 0 (i + 1) (absN 0 s c))).2 = bb at this ⊢
      cases bb
      · exact this
      · exact this
  | succ m ih =>
    intro w k x i P acc him hi1 hP cb h hx sr hl hb p hN hk
    unfold F96
    refine new_intro fun n6 w1 e1 b1 f1 z1 => Req_iff.2 ⟨rfl, new_intro fun n7 w2 e2 b2 f2 z2 => new_intro fun n8 w3 e3 b3 f3 z3 => Req_iff.2 ⟨hfn, new_intro fun n9 w4 e4 b4 f4 z4 => drw_intro fun w5 f5 z5 => ?_⟩⟩
    have f05 : Fr (fun _ => False) w w5 := (((f1.trans f2 fun _ h => h.elim).trans f3 fun _ h => h.elim).trans f4 fun _ h => h.elim).trans f5 fun _ h => h.elim
    have b7 : Blk w5 n7 84 [bx.v] := ((b2.fr f3 id).fr f4 id).fr f5 id
    have b8 : Blk w5 n8 29 [.int .u64 ((i : Nat) : Int)] := (b3.fr f4 id).fr f5 id
    have b6 : Blk w5 n6 81 [.pointer (some ⟨tb, 0, none⟩)] := (((b1.fr f2 id).fr f3 id).fr f4 id).fr f5 id
    have b9 : Blk w5 n9 177 [fn] := b4.fr f5 id
    refine load_any (i := 0) b7 rfl (load_int (i := 0) b8 rfl (load_any (i := 0) b7 rfl (load_int (i := 0) b8 rfl ?_)))
    refine low_intro (hb.fr0 f05) (by omega) fun w6 f6 => ?_
    refine chk (i := 0) (b8.fr f6 id) rfl (chk (i := 0) (b7.fr f6 id) rfl ?_)
    have f06 := f05.trans f6 fun _ h => h.elim
    refine high_intro (hb.fr0 f06) (by omega) fun w7 f7 => ?_
    refine chk (i := 0) ((b8.fr f6 id).fr f7 id) rfl (chk (i := 0) ((b7.fr f6 id).fr f7 id) rfl ?_)
    refine drw_intro fun w8 f8 z8 => ?_
    have f58 : Fr (fun _ => False) w5 w8 := (f6.trans f7 fun _ h => h.elim).trans f8 fun _ h => h.elim
    have f08 := f05.trans f58 fun _ h => h.elim
    refine load_ptr (i := 0) (b6.fr f58 id) rfl ?_
    simp only [NN_mk, add_mk, Nat.zero_add]
    have h8 := h.fr0 f08
    refine load_int (i := 2) h8.top rfl (load_int (i := 0) (b8.fr f58 id) rfl ?_)
    refine F103_call (F103_no (by omega) hdm (back_bool ?_))
    refine chk (i := 0) (b6.fr f58 id) rfl ?_
    rw [BIf_false]
    rw [vis_lvl] at hk hN
    refine F107_call (F107_spec (P := fun acc w => P acc w ∧ Blk w n6 81 [.pointer (some ⟨tb, 0, none⟩)] ∧ Blk w n7 84 [bx.v] ∧ Blk w n8 29 [.int .u64 ((i : Nat) : Int)] ∧ Blk w n9 177 [fn] ∧ BxOk w bx) (go := go) (items := fun c => vis (plI bx.lo) (plI bx.hi) (m + 1) (i + 1) (absN (m + 1) s c)) (acc := acc)
      (fun acc w w' ⟨p, c6, c7, c8, c9, cb⟩ f => ⟨hP _ _ _ p f, c6.fr f id, c7.fr f id, c8.fr f id, c9.fr f id, cb.fr0 f⟩) (fun acc c w f pp hn h hc hk => ?_) h8 hx (sr_keys sr) (hl x hx) ⟨hP _ _ _ p f08, b6.fr f58 id, b7.fr f58 id, b8.fr f58 id, b9.fr f58 id, hb.fr0 f08⟩ hN fun w9 p9 f9 => back_bool ?_)
    · obtain ⟨p, c6, c7, c8, c9, cbx⟩ := pp
      have hcD := h.kd x hx c hc
      refine NextT_enterR (callV_enter ent131) (F108_calls ?_)
      unfold F108
      refine drw_intro fun wa fa za => ?_
      simp only [NN_mk, add_mk, Nat.zero_add]
      have ha := h.fr0 fa
      refine load_ptr (i := 0) (c6.fr fa id) rfl (load_slice (i := 2) (ha.nodes c hcD) rfl (load_any (i := 0) (c7.fr fa id) rfl (load_int (i := 0) (c8.fr fa id) rfl (load_any (i := 0) (c9.fr fa id) rfl ?_))))
      rw [addI_u64 (by omega) (by omega), show ((i : Nat) : Int) + 1 = ((i + 1 : Nat) : Int) by omega]
      refine F96_call (ih (acc := acc) (P := fun acc w => P acc w ∧ Blk w n6 81 [.pointer (some ⟨tb, 0, none⟩)] ∧ Blk w n7 84 [bx.v] ∧ Blk w n8 29 [.int .u64 ((i : Nat) : Int)] ∧ Blk w n9 177 [fn] ∧ BxOk w bx) (by omega) (by omega)
        (fun acc w w' ⟨p, c6, c7, c8, c9, cb⟩ f => ⟨hP _ _ _ p f, c6.fr f id, c7.fr f id, c8.fr f id, c9.fr f id, cb.fr0 f⟩)
        (fun acc c w f ⟨p, c6, c7, c8, c9, cbx⟩ hn h hc hk => cb acc c w f p hn h hc fun w' p' f' => hk w' ⟨p', f'.blk c6 (by decide), f'.blk c7 (by decide), f'.blk c8 (by decide), f'.blk c9 (by decide), cbx.ft f'⟩ f')
        ha (.inr hcD) (sr.2 ((s c).v, absN (m + 1) s c) (List.mem_map.2 ⟨c, hc, rfl⟩)) hl (cbx.fr0 fa) ⟨hP _ _ _ p fa, c6.fr fa id, c7.fr fa id, c8.fr fa id, c9.fr fa id, cbx.fr0 fa⟩ hn fun wb pb fb => back_bool ?_)
      refine chk (i := 0) pb.2.2.2.1 rfl ?_
      have := hk wb pb ((Ft.of0 fa).trans fb)
      generalize (goOn go acc (vis (plI bx.lo) (plI bx.hi) (m + 1) (i + 1) (absN (m + 1) s c))).2 = bb at this ⊢
      cases bb
      · exact back_bool this
      · exact back_bool this
    · have := hk w9 p9.1 ((Ft.of0 f08).trans f9)
      generalize (goOn go acc ((pick s (plI bx.hi i) ((s x).kids.drop (lbd (plI bx.lo i) (keysR s x)))).flatMap fun c => vis (plI bx.lo) (plI bx.hi) (m + 1) (i + 1) (absN (m + 1) s c))).2 = bb at this ⊢
      cases bb
      · exact this
      · exact this
end
end Go.Proofs.YtfokodpnoiilbaaGreat.E

namespace Go.Proofs.YtfokodpnoiilbaaGreat.E
open Go
set_option linter.unusedSimpArgs false
set_option linter.unusedVariables false
set_option maxRecDepth 100000
set_option maxHeartbeats 8000000

theorem Own.n {w : World} {e : TypeId} {p : Option Addr} {l c : Nat} {vs : List Value} (h : Own w e p l c vs) : OwnN w e 1 p l c vs := by
  refine ⟨by rw [h.1, Nat.mul_one], ?_⟩
  rcases h.2 with h' | ⟨q, rest, h1, h2, h3, h4⟩
  · exact .inl h'
  · refine .inr ⟨q, rest, h1, h2, by omega, ?_, h4⟩
    have := h.1
    rw [← h3, List.length_append]; omega
theorem OwnN.one {w : World} {e : TypeId} {p : Option Addr} {l c : Nat} {vs : List Value} (h : OwnN w e 1 p l c vs) : Own w e p l c vs := by
  refine ⟨by have := h.1; omega, ?_⟩
  rcases h.2 with h' | ⟨q, rest, h1, h2, h3, h4, h5⟩
  · exact .inl h'
  · exact .inr ⟨q, rest, h1, h2, by omega, h5⟩
/-! ## Plain: how many -/
section
variable {α : Type}
def szN (n : Nat) (L : ON α n) : Nat := (fltK n L).length
theorem szN_succ (n : Nat) (L : ON α (n + 1)) : szN (n + 1) L = ((L : List (Int × ON α n)).map fun p => szN n p.2).sum := by
  show (List.flatMap _ _).length = _
  rw [List.length_flatMap]
  congr 1
  exact List.map_congr_left fun p _ => by rw [List.length_map]; rfl
theorem sz_ins {β : Type} {g : β → Nat} {v : Int} {f : β → β} {x0 : β} : ∀ {L : List (Int × β)}, L.Pairwise (fun p q => p.1 < q.1) →
    ((insL v f x0 L).map fun p => g p.2).sum + (match lkp v L with | none => 0 | some x => g x) = (L.map fun p => g p.2).sum + (match lkp v L with | none => g x0 | some x => g (f x))
  | [], _ => by simp [insL, lkp]
  | p :: L, h => by
    obtain ⟨h1, h2⟩ := List.pairwise_cons.1 h
    have ih := sz_ins (g := g) (v := v) (f := f) (x0 := x0) h2
    unfold insL
    by_cases hlt : p.1 < v
    · have e : lkp v (p :: L) = lkp v L := by show (if p.1 = v then _ else _) = _; rw [if_neg (by omega)]
      rw [if_pos hlt, e]
      simp only [List.map_cons, List.sum_cons]
      omega
    · rw [if_neg hlt]
      by_cases e : p.1 = v
      · have e1 : lkp v (p :: L) = some p.2 := by show (if p.1 = v then _ else _) = _; rw [if_pos e]
        rw [if_pos e, e1]
        simp only [List.map_cons, List.sum_cons]
        omega
      · have e1 : lkp v (p :: L) = none := by
          show (if p.1 = v then _ else _) = _
          rw [if_neg e]
          exact lkp_gt fun q hq => by have := h1 q hq; omega
        rw [if_neg e, e1]
        simp only [List.map_cons, List.sum_cons]
        omega
theorem lkp_srt {β : Type} {Q : β → Prop} {v : Int} {x : β} {L : List (Int × β)} (hs : L.Pairwise (fun p q => p.1 < q.1)) (h : ∀ p ∈ L, Q p.2) (hx : lkp v L = some x) : Q x := h _ ((lkp_mem hs).1 hx)
theorem szN_new : ∀ (n : Nat) (k : List Int) (e : α), k.length = n → szN n (newON n k e) = 1
  | 0, _, _, _ => rfl
  | n + 1, v :: vs, e, h => by
    rw [szN_succ]
    show szN n (newON n vs e) + 0 = 1
    rw [szN_new n vs e (by simpa using h)]
theorem szN_add : ∀ (n : Nat) (L : ON α n) (k : List Int) (e : α), SrtN n L → k.length = n → szN n (addON n L k e) = szN n L + if (getON n L k).isNone = true then 1 else 0
  | 0, x, [], e, _, _ => rfl
  | n + 1, L, v :: vs, e, ⟨h1, h2⟩, h => by
    have hl : vs.length = n := by simpa using h
    have := sz_ins (g := szN n) (v := v) (f := fun x => addON n x vs e) (x0 := newON n vs e) h1
    rw [szN_succ, szN_succ]
    show ((insL v (fun x => addON n x vs e) (newON n vs e) L).map fun p => szN n p.2).sum = _ + if (((lkp v (L : List (Int × ON α n))).bind fun x => getON n x vs).isNone) = true then 1 else 0
    cases hk : lkp v (L : List (Int × ON α n)) with
    | none =>
      rw [hk] at this
      simp only [Option.bind_none, Option.isNone_none, if_true]
      rw [szN_new n vs e hl] at this
      simpa using this
    | some x =>
      rw [hk] at this
      have hx : SrtN n x := lkp_srt (Q := SrtN n) h1 h2 hk
      have ih := szN_add n x vs e hx hl
      simp only [Option.bind_some]
      have this : ((insL v (fun x => addON n x vs e) (newON n vs e) L).map fun p => szN n p.2).sum + szN n x = (List.map (fun p : Int × ON α n => szN n p.2) L).sum + szN n (addON n x vs e) := this
      omega
end
/-! ## Entries -/
def addE (dm : Nat) (L : ON (Option Dtn) dm) (e : Dtn) : ON (Option Dtn) dm := addON dm L (kyD e dm 1) (some e)
def oldE (dm : Nat) (L : ON (Option Dtn) dm) (e : Dtn) : Option Dtn := (getON dm L (kyD e dm 1)).getD none
def addsE (dm : Nat) (L : ON (Option Dtn) dm) (ys : List Dtn) : ON (Option Dtn) dm := ys.foldl (addE dm) L
def oldsE (dm : Nat) : ON (Option Dtn) dm → List Dtn → List (Option Dtn)
  | _, [] => []
  | L, e :: ys => oldE dm L e :: oldsE dm (addE dm L e) ys
theorem addsE_snoc (dm : Nat) (L : ON (Option Dtn) dm) (ys : List Dtn) (e : Dtn) : addsE dm L (ys ++ [e]) = addE dm (addsE dm L ys) e := by unfold addsE; rw [List.foldl_append]; rfl
theorem oldsE_snoc (dm : Nat) : ∀ (ys : List Dtn) (L : ON (Option Dtn) dm) (e : Dtn), oldsE dm L (ys ++ [e]) = oldsE dm L ys ++ [oldE dm (addsE dm L ys) e]
  | [], L, e => rfl
  | y :: ys, L, e => by
    show oldE dm L y :: oldsE dm (addE dm L y) (ys ++ [e]) = _
    rw [oldsE_snoc dm ys]; rfl
theorem oldsE_length (dm : Nat) : ∀ (ys : List Dtn) (L : ON (Option Dtn) dm), (oldsE dm L ys).length = ys.length
  | [], L => rfl
  | y :: ys, L => by show (oldsE dm _ ys).length + 1 = _; rw [oldsE_length dm ys]; rfl
/-- The path's list. -/
def Pth (w : World) (base : Nat) (pp : Option Addr) (pl pc : Nat) : Prop := (∃ ps : List Nat, Own w 188 pp pl pc (ptrs ps)) ∧ ∀ y, bl pp y → base ≤ y
theorem Pth.fr {w w' : World} {S : Nat → Prop} {base pl pc : Nat} {pp : Option Addr} (h : Pth w base pp pl pc) (f : Fr S w w') (hS : ∀ b u us, S b → Blk w b u us → u ≠ 188) : Pth w' base pp pl pc := by
  obtain ⟨⟨ps, O⟩, lo⟩ := h
  refine ⟨⟨ps, O.fr f fun b hb hs => ?_⟩, lo⟩
  obtain ⟨us, hu⟩ := O.blk hb
  exact hS b _ us hs hu rfl
theorem Pth.fy {w w' : World} {base pl pc : Nat} {pp : Option Addr} (h : Pth w base pp pl pc) (f : Fy base w w') : Pth w' base pp pl pc := by
  obtain ⟨S, f, hS, _⟩ := f
  refine h.fr f fun b u us hs hu => ?_
  have := hS b u us hs hu
  simp only [List.mem_cons, List.not_mem_nil, or_false] at this
  rcases this with e | e | e <;> rw [e] <;> decide
def TrR (w : World) (base tb dm B : Nat) (L : ON (Option Dtn) dm) : Prop := ∃ D s pp pl pc, RM w base tb (szN dm L) dm pp pl pc D s ∧ RIn tb B dm tb D s ∧ absN dm s tb = L ∧ szN dm L ≤ B ∧ Pth w base pp pl pc
theorem TrR.fr {w w' : World} {S : Nat → Prop} {base tb dm B : Nat} {L : ON (Option Dtn) dm} {ts : List TypeId} (h : TrR w base tb dm B L) (f : Fr S w w') (hT : Tys S w ts) (ht : ∀ u ∈ ts, u ≠ 175 ∧ u ≠ 97 ∧ u ≠ 172 ∧ u ≠ 2 ∧ u ≠ 188) : TrR w' base tb dm B L := by
  obtain ⟨D, s, pp, pl, pc, h1, h2, h3, h4, h5⟩ := h
  have g := fun b u us hb hu => ht u (hT b u us hb hu)
  exact ⟨D, s, pp, pl, pc, h1.fr f fun b u us hb hu => ⟨(g b u us hb hu).1, (g b u us hb hu).2.1, (g b u us hb hu).2.2.1, (g b u us hb hu).2.2.2.1⟩, h2, h3, h4, h5.fr f fun b u us hb hu => (g b u us hb hu).2.2.2.2⟩
theorem TrR.fr0 {w w' : World} {base tb dm B : Nat} {L : ON (Option Dtn) dm} (h : TrR w base tb dm B L) (f : Fr (fun _ => False) w w') : TrR w' base tb dm B L := h.fr f (Tys.none w) fun u hu => by cases hu
theorem und143 : Tryz.prog.underlying 69 = some (.slice 76) := by kernel_rfl
theorem und144 : Tryz.prog.underlying 70 = some (.slice 76) := by kernel_rfl
theorem inf153 : ∃ i, Tryz.prog.info? 76 = some i ∧ i.zero = some .nilIface ∧ i.size = 1 ∧ i.bytes ≤ 4096 := ⟨_, rfl, by kernel_rfl, by kernel_rfl, Nat.le_of_ble_eq_true (by kernel_rfl)⟩
theorem rdE_one (o : Option Dtn) : oneC (rdE o) = true := by cases o <;> rfl
theorem rdE_one' (o : Option Dtn) : (rdE o).oneCell' = true := by cases o <;> rfl
theorem rdE_cells (o : Option Dtn) : (rdE o).cells = #[rdE o] := by cases o <;> rfl
theorem build1 {P : Program} {t e : TypeId} {i : TypeInfo} {z : Value} {f : Option Addr → Nat → Nat → W} {w : World} {v : Value}
    (ht : P.underlying t = some (.slice e)) (hi : P.info? e = some i) (hz : i.zero = some z) (h1 : i.size = 1) (hzc : z.cells = #[z]) (hvc : v.cells = #[v])
    (hk : ∀ w', Fr (fun _ => False) w w' → Blk w' w.heap.size e [v] → w'.heap.size = w.heap.size + 1 → f (some ⟨w.heap.size, 0, none⟩) 1 1 w') :
    RawT P (Instr.buildSlice t 1 [(0, v)].toArray) (.s (.one .slice)) f w := by
  have hr : (Instr.buildSlice t 1 [(0, v)].toArray).run P w = .ok (.slice (some ⟨w.heap.size, 0, none⟩) 1 1) (w.alloc (.cells #[v] e)) := by
    simp [Instr.buildSlice, run_underlying ht, sizeOf, typeInfo, hi, h1, zeroValue, hz, hzc, Instr.fill, newRow, hvc]
    have hx : (Array.map (fun x => [z][x % 1]?.getD default) (Array.range 1)).setIfInBounds 0 v = #[v] := by
      apply Array.ext
      · simp
      · intro j h1 h2
        have hj : j = 0 := by simpa using h2
        subst hj
        simp
    rw [hx]
  exact RawT_slice hr (hk _ (Fr.alloc _ _ _) (Blk.new _ _ _) (by simp))
section
variable {w : World} {k : Value → W} {base tb dm B : Nat} {L : ON (Option Dtn) dm}
/-- Add. -/
theorem F87_spec {ys : List Dtn} {p : Option Addr} {c : Nat} (h : TrR w base tb dm B L) (O : Own w 76 p ys.length c (ys.map Dtn.v)) (ok : ∀ y ∈ ys, DtOk w y) (hd1 : 1 ≤ dm) (hdm : dm < 1000) (hB : B + ys.length < 90000)
    (hk : ∀ w' p' c', TrR w' base tb dm (B + ys.length) (addsE dm L ys) → Own w' 76 p' ys.length c' ((oldsE dm L ys).map rdE) → (∀ o ∈ oldsE dm L ys, ∀ x, o = some x → DtOk w' x) → Fy base w w' → k (.slice p' ys.length c') w') :
    F87 k (some ⟨tb, 0, none⟩) p ys.length c w := by
  unfold F87
  cases ys with
  | nil =>
    rw [show (((([] : List Dtn).length : Nat) : Int) == 0) = true from rfl, BIf_true]
    exact hk w none 0 h (Own.nil _ _) (fun o ho => by cases ho) (.of0 (Fr.refl _ _))
  | cons y0 ys0 =>
    generalize hys : y0 :: ys0 = ys at *
    have hpos : 0 < ys.length := by rw [← hys]; simp
    rw [show (((ys.length : Nat) : Int) == 0) = false from beq_eq_false_iff_ne.2 (by omega), BIf_false]
    obtain ⟨ie, g1, g2, g3, g4⟩ := inf153
    refine make_intro ys.length ys.length und144 g1 g2 g3 rfl (by omega) (by omega) (Nat.le_refl _) fun w1 f1 o1 b1 z1 => ?_
    have hq := z1
    generalize hqq : w.heap.size = q at o1 b1
    refine F87_L1_rule (I := fun ot op ol oc sp sl sc n i w' => ot = some ⟨tb, 0, none⟩ ∧ op = some ⟨q, 0, none⟩ ∧ ol = ys.length ∧ oc = ys.length ∧ sp = p ∧ sl = ys.length ∧ sc = c ∧ n = ((ys.length : Nat) : Int) ∧ ∃ t : Nat, i = ((t : Nat) : Int) ∧ t ≤ ys.length ∧ TrR w' base tb dm (B + t) (addsE dm L (ys.take t)) ∧ Own w' 76 (some ⟨q, 0, none⟩) ys.length ys.length ((oldsE dm L (ys.take t)).map rdE ++ List.replicate (ys.length - t) .nilIface) ∧ (∀ o ∈ oldsE dm L (ys.take t), ∀ x, o = some x → DtOk w' x) ∧ Own w' 76 p ys.length c (ys.map Dtn.v) ∧ (∀ y ∈ ys, DtOk w' y) ∧ Fy base w w')
      (μ := fun ot op ol oc sp sl sc n i w' => ys.length - i.toNat) ?_ ⟨rfl, rfl, rfl, rfl, rfl, rfl, rfl, rfl, 0, rfl, Nat.zero_le _, h.fr0 f1, o1, (fun o ho => by cases ho), O.fr f1 fun _ _ => id, fun y hy => (ok y hy).fr0 f1, .of0 f1⟩
    rintro ot op ol oc sp sl sc n i w2 ⟨e1, e2, e3, e4, e5, e6, e7, rfl, t, rfl, ht, h2, o2, ok2, O2, oky, f2⟩
    obtain rfl := e7.symm
    obtain rfl := e5.symm
    unfold F87_L1
    rw [e1, e2, e3, e4, e6]
    by_cases hlt : t < ys.length
    · rw [decide_eq_true (show ((t : Nat) : Int) < ((ys.length : Nat) : Int) by omega), BIf_true]
      have hy : ys[t]? = some ys[t] := List.getElem?_eq_getElem hlt
      have hmem : ys[t] ∈ ys := List.getElem_mem hlt
      generalize ys[t] = y at hy hmem
      obtain ⟨q2, rest2, hp, hB2, _, _⟩ := O2.get (by omega)
      have hsn : ys.take (t + 1) = ys.take t ++ [y] := take_snoc hy
      have eA : addsE dm L (ys.take (t + 1)) = addE dm (addsE dm L (ys.take t)) y := by rw [hsn, addsE_snoc]
      have eO : oldsE dm L (ys.take (t + 1)) = oldsE dm L (ys.take t) ++ [oldE dm (addsE dm L (ys.take t)) y] := by rw [hsn, oldsE_snoc]
      generalize addsE dm L (ys.take t) = Lt at h2 eA eO
      have hlen : (oldsE dm L (ys.take t)).length = t := by rw [oldsE_length, List.length_take]; omega
      generalize oldsE dm L (ys.take t) = os at o2 ok2 eO hlen
      rw [hp, NN_mk, Req_iff, Int.toNat_natCast, add_mk, Nat.zero_add]
      refine ⟨by omega, load_any (v := y.v) hB2 (by rw [List.getElem?_append_left (by simpa using hlt), List.getElem?_map, hy]; rfl) ?_⟩
      rw [show y.v = Value.iface 89 y.a from rfl, IfaceNil_iface, BIf_false, show Value.iface 89 y.a = y.v from rfl]
      obtain ⟨D, s, pp, pl, pc, r1, r2, r3, r4, r5⟩ := h2
      have hrep : List.replicate (ys.length - t) Value.nilIface = Value.nilIface :: List.replicate (ys.length - (t + 1)) Value.nilIface := by
        rw [show ys.length - t = (ys.length - (t + 1)) + 1 by omega, List.replicate_succ]
      have hqlt : w.heap.size ≤ q := by omega
      have hmu : ys.length - (((t : Nat) : Int) + 1).toNat < ys.length - ((t : Nat) : Int).toNat := by omega
      refine F95_call (F95_spec r1 r2 (oky y hmem) hd1 hdm (by omega) (by omega) fun w3 s3 D3 g r hp3 hr3 h3 f3 => back_ptr ?_)
      have hkl : (kyD y dm 1).length = dm := kyD_len y dm 1
      have hA : absN dm s3 tb = addE dm Lt y := by rw [hp3.ab, r3]; rfl
      have hsz : szN dm (addE dm Lt y) = szN dm Lt + if (getON dm Lt (kyD y dm 1)).isNone = true then 1 else 0 := szN_add dm Lt _ _ (r3 ▸ r2.sr) hkl
      have hnum : szN dm Lt + (if r = none then 1 else 0) = szN dm (addE dm Lt y) := by
        rw [hsz]
        rw [← r3, hp3.gt]
        rcases hr3 with ⟨rfl, rfl⟩ | ⟨o, rfl, _, rfl⟩ <;> rfl
      have hin : RIn tb (B + (t + 1)) dm tb D3 s3 := ⟨.inl rfl, hp3.nd, by rw [hA]; exact srt_add dm Lt _ _ (r3 ▸ r2.sr), fun b hb => by have := hp3.b1 b hb; omega, fun b hb => by
        have hbD : b = tb ∨ b ∈ D3 := by
          rcases List.mem_cons.1 hb with e | hb
          · exact .inl e
          · exact .inr (rch_D dm h3.kd (.inl rfl) b hb)
        have := hp3.b1 b hbD; omega⟩
      rw [hnum] at h3
      have h3' : TrR w3 base tb dm (B + (t + 1)) (addE dm Lt y) := ⟨D3, s3, pp, pl, pc, h3, hin, hA, by rw [hsz]; split <;> omega, r5.fy f3⟩
      have o3 := f3.own o2 (by decide)
      have O3 := f3.own O2 (by decide)
      have oky3 : ∀ y ∈ ys, DtOk w3 y := fun y hy => f3.dt (oky y hy)
      have ok3 : ∀ o ∈ os, ∀ x, o = some x → DtOk w3 x := fun o ho x hx => f3.dt (ok2 o ho x hx)
      rw [addI_i64 (by omega) (by omega), show ((t : Nat) : Int) + 1 = ((t + 1 : Nat) : Int) by omega]
      cases r with
      | none =>
        rw [show (!(Option.map (fun o : Nat => (⟨o, 0, none⟩ : Addr)) none).isNone) = false from rfl, BIf_false]
        have ho : oldE dm Lt y = none := by
          rcases hr3 with ⟨_, rfl⟩ | ⟨o, h, _⟩
          · unfold oldE; rw [← r3, hp3.gt]; rfl
          · cases h
        rw [ho] at eO
        refine ⟨⟨by trivial, by trivial, by trivial, by trivial, rfl, by trivial, by trivial, by trivial, t + 1, by trivial, hlt, by rw [eA]; exact h3', ?_, ?_, by rw [← hp]; exact O3, oky3, f2.trans f3⟩, by omega⟩
        · rw [eO, List.map_append, List.append_assoc]
          rw [hrep] at o3
          exact o3
        · rw [eO]
          intro o ho' x hx
          rcases List.mem_append.1 ho' with h | h
          · exact ok3 o h x hx
          · rw [List.mem_singleton] at h; rw [h] at hx; cases hx
      | some o =>
        rw [show (!(Option.map (fun o : Nat => (⟨o, 0, none⟩ : Addr)) (some o)).isNone) = true from rfl, BIf_true]
        obtain ⟨hoD, hoG⟩ : o ∈ D3 ∧ g = some (s3 o).e := by
          rcases hr3 with ⟨h, _⟩ | ⟨o', h, h1, h2⟩
          · cases h
          · cases h; exact ⟨h1, h2⟩
        have ho : oldE dm Lt y = (s3 o).e := by unfold oldE; rw [← r3, hp3.gt, hoG]; rfl
        rw [ho] at eO
        simp only [Option.map_some, NN_mk, add_mk, Nat.zero_add, Int.toNat_natCast]
        refine load_any (i := 1) (h3.nodes o hoD) rfl ?_
        obtain ⟨rest, hBq, hqc, hqm⟩ := o3.full
        refine Req_iff.2 ⟨by omega, Req_iff.2 ⟨rdE_one _, ?_⟩⟩
        have hol : (List.map rdE os).length = t := by rw [List.length_map]; exact hlen
        refine store_intro hBq (by simp; omega) (rdE_one _) fun w4 b4 f4 z4 => ?_
        have eset : (List.map rdE os ++ List.replicate (ys.length - t) Value.nilIface ++ rest).set t (rdE (s3 o).e) = (List.map rdE (os ++ [(s3 o).e]) ++ List.replicate (ys.length - (t + 1)) Value.nilIface) ++ rest := by
          rw [hrep, List.append_assoc, List.set_append_right _ _ (by omega), hol, Nat.sub_self, List.map_append]
          simp
        rw [eset] at b4
        have T4 : Tys (fun x => x = q) w3 [76] := Tys.one hBq
        have nT : ∀ b u us, b = q → Blk w3 b u us → u ≠ 2 := fun b u us hb hu e => by
          have := T4 b u us hb hu
          rw [e] at this; simp at this
        refine ⟨⟨by trivial, by trivial, by trivial, by trivial, by trivial, by trivial, by trivial, by trivial, t + 1, by trivial, hlt, by rw [eA]; exact h3'.fr f4 T4 (by decide), ?_, ?_, ?_, fun y hy => (oky3 y hy).fr f4 nT, (f2.trans f3).new f4 fun b hb => by have hb : b = q := hb; omega⟩, by omega⟩
        · rw [eO]
          exact Own.mk' b4 (by simp [hlen]; omega) (by have h := hqc; simp [hlen] at h ⊢; omega) hqm
        · rw [eO]
          intro o' ho' x hx
          rcases List.mem_append.1 ho' with h | h
          · exact (ok3 o' h x hx).fr f4 nT
          · rw [List.mem_singleton] at h; rw [h] at hx
            exact (h3.ok o hoD x hx).fr f4 nT
        · rw [← hp]; exact O3.fr f4 fun b hb e => by have := O.lt hb; have e : b = q := e; omega
    · rw [decide_eq_false (show ¬ ((t : Nat) : Int) < ((ys.length : Nat) : Int) by omega), BIf_false]
      have : t = ys.length := by omega
      subst this
      rw [List.take_length] at h2 o2 ok2
      rw [Nat.sub_self, List.replicate_zero, List.append_nil] at o2
      exact hk w2 _ _ h2 o2 ok2 f2
end
end Go.Proofs.YtfokodpnoiilbaaGreat.E

namespace Go.Proofs.YtfokodpnoiilbaaGreat.E
open Go
set_option linter.unusedSimpArgs false
set_option linter.unusedVariables false
set_option maxRecDepth 100000
set_option maxHeartbeats 8000000

/-! ## Plain: not more than there are -/
section
variable {α : Type}
theorem sum_take {β : Type} (g : β → Nat) (p : β → Bool) : ∀ l : List β, ((l.takeWhile p).map g).sum ≤ (l.map g).sum
  | [] => Nat.le_refl _
  | x :: l => by
    have := sum_take g p l
    rw [List.takeWhile_cons]
    split
    · simp only [List.map_cons, List.sum_cons]; omega
    · simp
theorem sum_drop {β : Type} (g : β → Nat) : ∀ (l : List β) (n : Nat), ((l.drop n).map g).sum ≤ (l.map g).sum
  | l, 0 => by simp
  | [], n + 1 => by simp
  | x :: l, n + 1 => by
    have := sum_drop g l n
    simp only [List.drop_succ_cons, List.map_cons, List.sum_cons]; omega
theorem sum_le {β : Type} {f g : β → Nat} : ∀ {l : List β}, (∀ x ∈ l, f x ≤ g x) → (l.map f).sum ≤ (l.map g).sum
  | [], _ => Nat.le_refl _
  | x :: l, h => by
    have := h x List.mem_cons_self
    have := sum_le (l := l) fun y hy => h y (List.mem_cons_of_mem _ hy)
    simp only [List.map_cons, List.sum_cons]; omega
theorem vis_len (lo hi : Nat → Int) : ∀ (n i : Nat) (L : ON α n), (vis lo hi n i L).length ≤ szN n L
  | 0, _, _ => Nat.le_refl _
  | n + 1, i, L => by
    rw [szN_succ]
    show (List.flatMap _ _).length ≤ _
    rw [List.length_flatMap]
    refine Nat.le_trans (sum_le fun p _ => vis_len lo hi n (i + 1) p.2) ?_
    exact Nat.le_trans (sum_take _ _ _) (sum_drop _ _ _)
end
def nilN : (n : Nat) → ON (Option Dtn) n
  | 0 => none
  | n + 1 => ([] : List (Int × ON (Option Dtn) n))
theorem und184 : Tryz.prog.underlying 93 = some (.slice 188) := by kernel_rfl
theorem inf241 : ∃ i, Tryz.prog.info? 188 = some i ∧ i.zero = some (.pointer none) ∧ i.size = 1 ∧ i.bytes ≤ 4096 := ⟨_, rfl, by kernel_rfl, by kernel_rfl, Nat.le_of_ble_eq_true (by kernel_rfl)⟩
theorem ent125 : ∀ args w, (callFunc 102 args).run Tryz.prog w = .ok (.enter 102 args) w := enters_of Tryz.func102 (by kernel_rfl) rfl
theorem ent120 : ∀ args w, (callFunc 97 args).run Tryz.prog w = .ok (.enter 97 args) w := enters_of Tryz.func97 (by kernel_rfl) rfl
theorem ent69 : ∀ args w, (callFunc 27 args).run Tryz.prog w = .ok (.enter 27 args) w := enters_of Tryz.func27 (by kernel_rfl) rfl
/-- What is gathered: a variable and its list. -/
def Gat (base n : Nat) (acc : List (Option Dtn)) (w : World) : Prop := ∃ p c, Blk w n 70 [.slice p acc.length c] ∧ Own w 76 p acc.length c (acc.map rdE) ∧ (∀ o ∈ acc, ∀ x, o = some x → DtOk w x) ∧ base ≤ n ∧ ∀ b, bl p b → base ≤ b
theorem Gat.fr0 {base n : Nat} {acc : List (Option Dtn)} {w w' : World} (h : Gat base n acc w) (f : Fr (fun _ => False) w w') : Gat base n acc w' := by
  obtain ⟨p, c, h1, h2, h3, h4⟩ := h
  exact ⟨p, c, h1.fr f id, h2.fr f fun _ _ => id, fun o ho x hx => (h3 o ho x hx).fr0 f, h4⟩
section
variable {w : World} {k : Value → W} {base tb dm B : Nat} {L : ON (Option Dtn) dm}
/-- New. -/
theorem F17_spec (hd1 : 1 ≤ dm) (hdm : dm < 1000) (hbase : base ≤ w.heap.size) (hk : ∀ w' tb, TrR w' base tb dm 0 (nilN dm) → Fr (fun _ => False) w w' → k (.iface 81 (.pointer (some ⟨tb, 0, none⟩))) w') : F17 k ((dm : Nat) : Int) w := by
  obtain ⟨i, g1, g2, g3, g4⟩ := inf241
  unfold F17
  refine F23_call ?_
  unfold F23
  refine make_intro 0 dm und184 g1 g2 g3 rfl (by omega) (by omega) (by omega) fun w1 f1 o1 b1 z1 => ?_
  refine new_intro fun n w2 e2 b2 f2 z2 => back_ptr ?_
  refine hk w2 n ?_ (f1.trans f2 fun _ h => h.elim)
  obtain ⟨m, rfl⟩ : ∃ m, dm = m + 1 := ⟨dm - 1, by omega⟩
  refine ⟨[], fun _ => ⟨0, none, none, 0, []⟩, _, _, _, ⟨fun b hb => (by cases hb), b2, fun b hb => ?_, fun b b' hb hb' hne => ?_, fun b hb c hc => (by cases hc), fun b hb => (by cases hb), fun b hb => ?_⟩, ⟨.inl rfl, ?_, ?_, fun b _ => Nat.zero_le _, fun b _ => Nat.zero_le _⟩, rfl, Nat.zero_le _, ⟨[], o1.fr f2 fun _ _ => id⟩, fun y hy => by have := bl_q.1 hy; omega⟩
  · exact Own.nil _ _
  · rcases hb with rfl | hb
    · rcases hb' with rfl | hb'
      · exact absurd rfl hne
      · cases hb'
    · cases hb
  · rcases hb with rfl | hb
    · have := f1.size
      exact ⟨by omega, fun y ⟨_, h, _⟩ => by cases h⟩
    · cases hb
  · show (n :: List.flatMap _ []).Nodup
    simp
  · exact ⟨List.Pairwise.nil, fun p hp => (by cases hp)⟩
/-- Len. -/
theorem F92_spec (h : TrR w base tb dm B L) (hk : k (.int .u64 ((szN dm L : Nat) : Int)) w) : F92 k (some ⟨tb, 0, none⟩) w := by
  obtain ⟨D, s, pp, pl, pc, h1, h2, h3, h4⟩ := h
  unfold F92
  simp only [NN_mk, add_mk, Nat.zero_add]
  exact load_int (i := 1) h1.top rfl hk
/-- The list of a variable grows by an entry. -/
theorem gat_put {n : Nat} {acc : List (Option Dtn)} {o : Option Dtn} {p' : Option Addr} {c' : Nat} {w1 w2 w3 : World} {p : Option Addr} {c : Nat} (hB : Blk w1 n 70 [.slice p acc.length c]) (O : Own w1 76 p acc.length c (acc.map rdE)) (hok : ∀ o ∈ acc, ∀ x, o = some x → DtOk w1 x) (ho : ∀ x, o = some x → DtOk w1 x)
    (f2 : Fr (fun b => bl p b) w1 w2) (o2 : Own w2 76 p' (acc.length + 1) c' (acc.map rdE ++ [rdE o])) (b3 : Blk w3 n 70 [.slice p' (acc.length + 1) c']) (hb2 : Blk w2 n 70 [.slice p acc.length c]) (f3 : Fr (fun b => b = n) w2 w3) (hp' : ∀ b, bl p' b → bl p b ∨ w1.heap.size ≤ b) (hbn : base ≤ n) (hbp : ∀ b, bl p b → base ≤ b) : Gat base n (acc ++ [o]) w3 ∧ Ft base w1 w3 := by
  have hlt := hB.lt
  have T2 : Tys (fun b => bl p b) w1 [70, 76] := fun b u us hb hu => by
    obtain ⟨us', hu'⟩ := O.blk hb
    rw [(hu.unique hu').1]; decide
  have T3 : Tys (fun b => b = n) w2 [70, 76] := fun b u us hb hu => by
    have := Tys.one hb2 b u us hb hu
    simp at this; rw [this]; decide
  have ft : Ft base w1 w3 := Ft.trans ⟨_, f2, T2, hbp⟩ ⟨_, f3, T3, fun b hb => by have hb : b = n := hb; omega⟩
  have dt : ∀ x, DtOk w1 x → DtOk w3 x := fun x hx => ⟨ft.sl hx.1, hx.2⟩
  refine ⟨⟨p', c', ?_, ?_, fun o' ho' x hx => ?_, hbn, fun b hb => by rcases hp' b hb with h | h; exact hbp b h; omega⟩, ft⟩
  · simp only [List.length_append, List.length_singleton]; exact b3
  · simp only [List.length_append, List.length_singleton, List.map_append, List.map_cons, List.map_nil]
    exact o2.fr f3 fun b hb e => by
      obtain ⟨us, hu⟩ := o2.blk hb
      have e : b = n := e
      rw [e] at hu
      have := (hu.unique hb2).1
      simp at this
  · rcases List.mem_append.1 ho' with h | h
    · exact dt x (hok o' h x hx)
    · rw [List.mem_singleton] at h; rw [h] at hx; exact dt x (ho x hx)
/-- Query's callback. -/
theorem cb125 {n num N : Nat} {pp : Option Addr} {pl pc : Nat} {D : List Nat} {s : RSt} (hN : N < 4294967296) : Cb (Gat base n) (fun _ => true) (.func (.func 102) #[] #[.pointer (some ⟨n, 0, none⟩)]) N base tb num dm pp pl pc D s := by
  intro acc c w f ⟨p, c0, hB, O, hok, hbn, hbp⟩ hn h hc hk
  obtain ⟨ie, g1, g2, g3, g4⟩ := inf153
  refine NextT_enterR (callV_enter ent125) (F102_calls ?_)
  unfold F102
  refine drw_intro fun w1 f1 z1 => ?_
  have hB1 := hB.fr f1 id
  have h1 := h.fr0 f1
  simp only [NN_mk, add_mk, Nat.zero_add]
  refine load_slice (i := 0) hB1 rfl (load_any (i := 1) (h1.nodes c hc) rfl ?_)
  refine build1 und144 g1 g2 g3 rfl (rdE_cells _) fun w2 f2 b2 z2 => ?_
  have hB2 := hB1.fr f2 id
  have O2 := (O.fr f1 fun _ _ => id).fr f2 fun _ _ => id
  have h2 := h1.fr0 f2
  refine chk (i := 0) hB2 rfl ?_
  refine append_own und144 g1 g2 g3 (by decide) rfl g4 O2.n (m := 1) (news := [rdE (s c).e]) rfl (fun j u hu => by rw [add_mk, Nat.zero_add, b2.cell]; exact hu) (fun u hu => by rw [List.mem_singleton] at hu; subst hu; exact rdE_one' _) (by omega) fun p' c' w3 f3 O3 hp3 => ?_
  have T2 : Tys (fun b => bl p b) w2 [76] := fun b u us hb hu => by
    obtain ⟨us', hu'⟩ := O2.blk hb
    rw [(hu.unique hu').1]; decide
  have hB3 := blk_ty hB2 f3 T2 (by decide)
  refine chk (i := 1) (blk_ty (h2.nodes c hc) f3 T2 (by decide)) rfl ?_
  refine store_intro (i := 0) hB3 (by simp) rfl fun w4 b4 f4 z4 => ?_
  obtain ⟨ga, ft⟩ := gat_put (o := (s c).e) hB2 O2 (fun o ho x hx => ((hok o ho x hx).fr0 f1).fr0 f2) (fun x hx => h2.ok c hc x hx) f3 O3.one b4 hB3 f4 hp3 hbn hbp
  exact back_bool (hk w4 ga ((Ft.of0 (f1.trans f2 fun _ h => h.elim)).trans ft))
/-- Query. -/
theorem F93_spec {bx : Bx} (h : TrR w base tb dm B L) (hb : BxOk w bx) (hd1 : 1 ≤ dm) (hdm : dm < 1000) (hB : B < 90000)
    (hk : ∀ w' p c, Own w' 76 p (vis (plI bx.lo) (plI bx.hi) dm 1 L).length c ((vis (plI bx.lo) (plI bx.hi) dm 1 L).map rdE) → (∀ o ∈ vis (plI bx.lo) (plI bx.hi) dm 1 L, ∀ x, o = some x → DtOk w' x) → Ft base w w' → k (.slice p (vis (plI bx.lo) (plI bx.hi) dm 1 L).length c) w') : F93 k (some ⟨tb, 0, none⟩) bx.v w := by
  obtain ⟨ie, g1, g2, g3, g4⟩ := inf153
  have hvl := vis_len (plI bx.lo) (plI bx.hi) dm 1 L
  have hbase : base ≤ w.heap.size := by
    obtain ⟨D, s, pp, pl, pc, h1, _⟩ := h
    have := (h1.lo tb (.inl rfl)).1
    have := h1.top.lt; omega
  unfold F93
  refine F101_call ?_
  unfold F101
  refine make_intro 0 10 und144 g1 g2 g3 rfl (by omega) (by omega) (by omega) fun w1 f1 o1 b1 z1 => back_slice ?_
  refine new_intro fun n w2 e2 b2 f2 z2 => ?_
  refine store_intro (i := 0) b2 (by simp) rfl fun w3 b3 f3 z3 => ?_
  have b3 : Blk w3 n 70 [.slice (some ⟨w.heap.size, 0, none⟩) 0 10] := b3
  have f03 : Fr (fun _ => False) w w3 := by
    have : Fr (fun b => b = n) w w3 := ((f1.mono (S' := fun b => b = n) fun _ h => h.elim).trans f2 fun _ h => h.elim).trans f3 fun _ h => .inl h
    exact this.mono fun b h => .inr (by have h : b = n := h; omega)
  have g3' : Gat base n [] w3 := ⟨_, _, b3, (o1.fr f2 fun _ _ => id).fr f3 fun b hb e => by
    have := bl_q.1 hb
    have e : b = n := e
    omega, fun o ho => (by cases ho), by have := hbase; have := f1.size; omega, fun b hb => by have := bl_q.1 hb; have := hbase; omega⟩
  obtain ⟨D, s, pp, pl, pc, h1, h2, h3, h4, _⟩ := h.fr0 f03
  simp only [NN_mk]
  have hc := h1.cell (.inl rfl : tb = tb ∨ tb ∈ D) (f := fun s6p s6l s6c => CallT Go.Proofs.Tryz.prog 96 [.pointer (some ⟨tb, 0, none⟩), .slice s6p s6l s6c, bx.v, .int .u64 1, .func (.func 102) #[] #[.pointer (some ⟨n, 0, none⟩)]] (.s (.one .bool)) fun b7 =>
    LoadT .slice ⟨n, 0, none⟩ fun s8p s8l s8c => k (.slice s8p s8l s8c))
  have hla : la tb tb = ⟨tb, 0, none⟩ := if_pos rfl
  rw [hla] at hc
  refine hc ?_
  obtain ⟨m, rfl⟩ : ∃ m, dm = m + 1 := ⟨dm - 1, by omega⟩
  refine F96_call (F96_spec (N := 1000000) (P := Gat base n) (go := fun _ => true) (acc := []) (i := 1) rfl (by omega) m (by omega) (by omega) (fun acc w w' h f => h.fr0 f) (cb125 (by omega)) h1 (.inl rfl) h2.sr (fun b hb => by have := h2.b1 b hb; omega) (hb.fr0 f03) g3' (by rw [h3]; simp; omega) fun w4 ga f4 => back_bool ?_)
  rw [goOn_all, h3, List.nil_append] at ga
  obtain ⟨p, c, hB4, O4, hok, _⟩ := ga
  refine load_slice (i := 0) hB4 rfl ?_
  exact hk w4 p c O4 hok ((Ft.of0 f03).trans f4)
/-- Apply's callback. -/
theorem cb120 {n n4 n11 num N : Nat} {a b : Value} {c2 c3 c4 c5 c6 c7 : Value} {M : Nat} {pp : Option Addr} {pl pc : Nat} {D : List Nat} {s : RSt} (hN : N < 4294967296) : Cb (fun acc w => Gat base n acc w ∧ Blk w n4 77 [.func (.func 27) #[] #[.pointer (some ⟨n, 0, none⟩), .pointer (some ⟨n11, 0, none⟩)]] ∧ Blk w n11 31 [a, b, c2, c3, c4, c5, c6, c7, .int .i64 ((M : Nat) : Int)]) (fun l => decide (l.length ≤ M)) (.func (.func 97) #[] #[.pointer (some ⟨n4, 0, none⟩)]) N base tb num dm pp pl pc D s := by
  intro acc c w f ⟨⟨p, c0, hB, O, hok, hbn, hbp⟩, b4, b11⟩ hn h hc hk
  obtain ⟨ie, g1, g2, g3, g4⟩ := inf153
  refine NextT_enterR (callV_enter ent120) (F97_calls ?_)
  unfold F97
  refine drw_intro fun w1 f1 z1 => ?_
  have hB1 := hB.fr f1 id
  have h1 := h.fr0 f1
  simp only [NN_mk, add_mk, Nat.zero_add]
  refine load_any (i := 0) (b4.fr f1 id) rfl (load_any (i := 1) (h1.nodes c hc) rfl ?_)
  refine NextT_enterR (callV_enter ent69) (F27_calls ?_)
  unfold F27
  refine load_slice (i := 0) hB1 rfl ?_
  have O1 := O.fr f1 fun _ _ => id
  refine append1 und144 g1 g2 g3 rfl g4 O1 (v := rdE (s c).e) (rdE_one' _) (rdE_cells _) (by omega) fun p' c' w2 f2 O2 hp2 z2 => ?_
  have T2 : Tys (fun b => bl p b) w1 [76] := fun b u us hb hu => by
    obtain ⟨us', hu'⟩ := O1.blk hb
    rw [(hu.unique hu').1]; decide
  have hB2 := blk_ty hB1 f2 T2 (by decide)
  refine store_intro (i := 0) hB2 (by simp) rfl fun w3 b3 f3 z3 => ?_
  have b3 : Blk w3 n 70 [.slice p' (acc.length + 1) c'] := b3
  obtain ⟨ga, ft⟩ := gat_put (o := (s c).e) hB1 O1 (fun o ho x hx => (hok o ho x hx).fr0 f1) (fun x hx => h1.ok c hc x hx) f2 O2 b3 hB2 f3 hp2 hbn hbp
  refine load_slice (i := 0) b3 rfl ?_
  have b11' := ft.blk (b11.fr f1 id) (by decide)
  simp only [add_mk, Nat.zero_add]
  refine load_int (i := 8) b11' rfl (bind_intro (back_bool (back_bool ?_)))
  have := hk w3 ⟨ga, ft.blk (b4.fr f1 id) (by decide), b11'⟩ ((Ft.of0 f1).trans ft)
  have e : decide ((((acc.length + 1 : Nat)) : Int) ≤ ((M : Nat) : Int)) = decide ((acc ++ [(s c).e]).length ≤ M) := by
    rw [decide_eq_decide]; simp; omega
  rw [e]; exact this
/-- Apply. -/
theorem F88_spec {bx : Bx} {n n11 M : Nat} {a b c2 c3 c4 c5 c6 c7 : Value} (h : TrR w base tb dm B L) (hb : BxOk w bx) (hd1 : 1 ≤ dm) (hdm : dm < 1000) (hB : B < 90000) (hG : Gat base n [] w) (b11 : Blk w n11 31 [a, b, c2, c3, c4, c5, c6, c7, .int .i64 ((M : Nat) : Int)])
    (hk : ∀ w', Gat base n ((vis (plI bx.lo) (plI bx.hi) dm 1 L).take (M + 1)) w' → Ft base w w' → k (.tuple #[]) w') : F88 k (some ⟨tb, 0, none⟩) bx.v (.func (.func 27) #[] #[.pointer (some ⟨n, 0, none⟩), .pointer (some ⟨n11, 0, none⟩)]) w := by
  have hvl := vis_len (plI bx.lo) (plI bx.hi) dm 1 L
  unfold F88
  refine Req_iff.2 ⟨rfl, new_intro fun n4 w1 e1 b1 f1 z1 => ?_⟩
  obtain ⟨D, s, pp, pl, pc, h1, h2, h3, h4, _⟩ := h.fr0 f1
  simp only [NN_mk]
  have hc := h1.cell (.inl rfl : tb = tb ∨ tb ∈ D) (f := fun s6p s6l s6c => CallT Go.Proofs.Tryz.prog 96 [.pointer (some ⟨tb, 0, none⟩), .slice s6p s6l s6c, bx.v, .int .u64 1, .func (.func 97) #[] #[.pointer (some ⟨n4, 0, none⟩)]] (.s (.one .bool)) fun b7 =>
    k (.tuple #[]))
  have hla : la tb tb = ⟨tb, 0, none⟩ := if_pos rfl
  rw [hla] at hc
  refine hc ?_
  obtain ⟨m, rfl⟩ : ∃ m, dm = m + 1 := ⟨dm - 1, by omega⟩
  refine F96_call (F96_spec (N := 1000000) (P := fun acc w => Gat base n acc w ∧ Blk w n4 77 [.func (.func 27) #[] #[.pointer (some ⟨n, 0, none⟩), .pointer (some ⟨n11, 0, none⟩)]] ∧ Blk w n11 31 [a, b, c2, c3, c4, c5, c6, c7, .int .i64 ((M : Nat) : Int)]) (go := fun l => decide (l.length ≤ M)) (acc := []) (i := 1) rfl (by omega) m (by omega) (by omega) (fun acc w w' ⟨h1, h2, h3⟩ f => ⟨h1.fr0 f, h2.fr f id, h3.fr f id⟩) (cb120 (by omega)) h1 (.inl rfl) h2.sr (fun b hb => by have := h2.b1 b hb; omega) (hb.fr0 f1) ⟨hG.fr0 f1, b1, b11.fr f1 id⟩ (by rw [h3]; simp; omega) fun w4 ga f4 => back_bool ?_)
  have e := goOn_take M (vis (plI bx.lo) (plI bx.hi) (m + 1) 1 L) [] (Nat.zero_le _)
  rw [h3, e] at ga
  exact hk w4 ga.1 ((Ft.of0 f1).trans f4)
end
end Go.Proofs.YtfokodpnoiilbaaGreat.E

namespace Go.Proofs.YtfokodpnoiilbaaGreat.E
open Go
set_option linter.unusedSimpArgs false
set_option linter.unusedVariables false
set_option maxRecDepth 100000
set_option maxHeartbeats 8000000

/-- An entry by values: its place, its number. -/
@[reducible] def PD := List Int × Int
def Dtn.pl (x : Dtn) : PD := (x.pos, x.val)
def pdO (o : Option PD) : PD := o.getD ([], 0)
def DoK (t : TypeId) : Rk PD := ⟨t, 2, fun w g x => ∃ p c, g 0 = some (.slice p x.1.length c) ∧ g 1 = some (.int .i64 x.2) ∧ Sl In64K w p x.1, [2],
  fun h ⟨p, c, h0, h1, h2⟩ => ⟨p, c, by rw [← h 0 (by decide)]; exact h0, by rw [← h 1 (by decide)]; exact h1, h2⟩,
  fun f hd ⟨p, c, h0, h1, h2⟩ => ⟨p, c, h0, h1, sl_dp h2 f hd (by decide) (fun u hu => by cases hu)⟩⟩
/-- Blocks of some types turn, none of them old, and no others. -/
def FX (base : Nat) (ts : List TypeId) (w w' : World) : Prop := ∃ S, Fr S w w' ∧ Tys S w ts ∧ ∀ b, S b → base ≤ b
section
variable {base : Nat} {ts : List TypeId} {w w' : World}
theorem FX.of0 (f : Fr (fun _ => False) w w') : FX base ts w w' := ⟨_, f, fun _ _ _ h => h.elim, fun _ h => h.elim⟩
theorem FX.mono {ts' : List TypeId} (h : ∀ u ∈ ts, u ∈ ts') : FX base ts w w' → FX base ts' w w' := fun ⟨S, f, hS, g⟩ => ⟨S, f, fun b u us hb hu => h u (hS b u us hb hu), g⟩
theorem FX.trans {w1 w2 : World} : FX base ts w w1 → FX base ts w1 w2 → FX base ts w w2 := fun ⟨S, f, h, g⟩ ⟨S2, f2, h2, g2⟩ => ⟨fun y => S y ∨ S2 y, (f.mono fun y hy => .inl (.inl hy)).trans f2 fun y hy => .inl (.inr hy), fun b u us hb hB => by
  by_cases hS : S b
  · exact h b u us hS hB
  · rcases hb with hb | hb
    · exact h b u us hb hB
    · exact h2 b u us hb (hB.fr f hS), fun b hb => hb.elim (g b) (g2 b)⟩
theorem FX.new {w1 w2 : World} {S : Nat → Prop} : FX base ts w w1 → Fr S w1 w2 → (∀ b, S b → w.heap.size ≤ b) → FX base ts w w2 := fun ⟨S0, f, h, g⟩ f2 hS => ⟨S0, f.trans f2 fun y hy => .inr (hS y hy), h, g⟩
theorem FX.fr0 (f : FX base ts w w') (hb : w.heap.size ≤ base) : Fr (fun _ => False) w w' := by
  obtain ⟨S, f, hS, g⟩ := f
  exact f.mono fun b h => .inr (Nat.le_trans hb (g b h))
theorem FX.blk {b t : Nat} {us : List Value} (h : Blk w b t us) (f : FX base ts w w') (ht : t ∉ ts) : Blk w' b t us := by
  obtain ⟨S, f, hS, _⟩ := f
  exact blk_ty h f hS ht
theorem FX.sl {α : Type} {K : Rk α} {p : Option Addr} {xs : List α} (h : Sl K w p xs) (f : FX base ts w w') (hd : ∀ u ∈ ts, u ≠ K.t ∧ u ∉ K.dp) : Sl K w' p xs := by
  obtain ⟨S, f, hS, _⟩ := f
  exact h.fr f hS hd
theorem FX.slO {α : Type} {K : Rk α} {p : Option Addr} {l c : Nat} {xs : List α} (h : SlO K w p l c xs) (f : FX base ts w w') (hd : ∀ u ∈ ts, u ≠ K.t ∧ u ∉ K.dp) : SlO K w' p l c xs := by
  obtain ⟨S, f, hS, _⟩ := f
  exact h.fr f hS hd
theorem FX.own {e : TypeId} {p : Option Addr} {l c : Nat} {vs : List Value} (h : Own w e p l c vs) (f : FX base ts w w') (ht : e ∉ ts) : Own w' e p l c vs := by
  obtain ⟨S, f, hS, _⟩ := f
  refine h.fr f fun b hb hs => ?_
  obtain ⟨us, hu⟩ := h.blk hb
  exact ht (hS b e us hs hu)
theorem FX.dt {x : Dtn} (h : DtOk w x) (f : FX base ts w w') (ht : 2 ∉ ts) : DtOk w' x := by
  obtain ⟨S, f, hS, _⟩ := f
  exact h.fr f fun b u us hb hu e => ht (e ▸ hS b u us hb hu)
theorem FX.size : FX base ts w w' → w.heap.size ≤ w'.heap.size := fun ⟨S, f, h⟩ => f.size
theorem FX.tr {base' tb dm B : Nat} {L : ON (Option Dtn) dm} (h : TrR w base' tb dm B L) (f : FX base ts w w') (ht : ∀ u ∈ ts, u ≠ 175 ∧ u ≠ 97 ∧ u ≠ 172 ∧ u ≠ 2 ∧ u ≠ 188) : TrR w' base' tb dm B L := by
  obtain ⟨S, f, hS, _⟩ := f
  exact h.fr f hS ht
end
def z87 : Value := .agg #[.slice none 0 0, .int .i64 0]
theorem und46 : Tryz.prog.underlying 27 = some (.slice 42) := by kernel_rfl
theorem inf87 : ∃ i, Tryz.prog.info? 42 = some i ∧ i.zero = some z87 ∧ i.size = 2 ∧ i.bytes ≤ 4096 := ⟨_, rfl, by kernel_rfl, by kernel_rfl, Nat.le_of_ble_eq_true (by kernel_rfl)⟩
theorem fill87 (p : Option Addr) (l c : Nat) (i : Int) : ∀ i' : TypeInfo, i'.size = 2 → Instr.fill (fun j => some (j * i'.size, i'.size)) ((Array.range (1 * i'.size)).map (z87.cells[· % z87.cells.size]!)) [(0, .agg #[.slice p l c, .int .i64 i])] = some [.slice p l c, .int .i64 i].toArray := by
  intro i' h; rw [h]; kernel_rfl
theorem ta192 (p : Option Addr) (l c : Nat) (i : Int) (w : World) : (Instr.typeAssert (.iface 89 (.agg #[.slice p l c, .int .i64 i])) 76 89 true).run Tryz.prog w = .ok (.tuple #[.agg #[.slice p l c, .int .i64 i], .bool true]) w := by kernel_rfl
theorem ta192n (w : World) : (Instr.typeAssert .nilIface 76 89 true).run Tryz.prog w = .ok (.tuple #[.agg #[.slice none 0 0, .int .i64 0], .bool false]) w := by kernel_rfl
section
variable {w : World} {k : Value → W}
theorem ta_rd {o : Option Dtn} {f : Option Addr → Nat → Nat → Int → Bool → W} (hk : f (o.getD dtn0).p (o.getD dtn0).pos.length (o.getD dtn0).c (o.getD dtn0).val o.isSome w) : RawS Tryz.prog (Instr.typeAssert (rdE o) 76 89 true) (.tup [(.agg [.slice, (.int .i64)]), (.one .bool)]) f w := by
  cases o with
  | none => exact ⟨((none, 0, 0), 0, false, ()), ta192n w, hk⟩
  | some x => exact ⟨((x.p, x.pos.length, x.c), x.val, true, ()), ta192 _ _ _ _ w, hk⟩
theorem back_ss {f : Option Addr → Nat → Nat → Option Addr → Nat → Nat → W} {p q : Option Addr} {l c m d : Nat} (h : f p l c q m d w) : Back (.tup [(.one .slice), (.one .slice)]) f (.returned (.tuple #[.slice p l c, .slice q m d])) w := ⟨((p, l, c), (q, m, d), ()), rfl, h⟩
theorem pdO_pl (o : Option Dtn) : pdO (o.map Dtn.pl) = (o.getD dtn0).pl := by cases o <;> rfl
/-- tellDots. -/
theorem F30_spec {os : List (Option Dtn)} {p : Option Addr} {c : Nat} (O : Own w 76 p os.length c (os.map rdE)) (ok : ∀ o ∈ os, ∀ x, o = some x → DtOk w x) (hl : os.length < 1000000)
    (hk : ∀ w' p' c' q d, SlO (DoK 42) w' p' os.length c' (os.map fun o => pdO (o.map Dtn.pl)) → SlO BoK w' q os.length d (os.map Option.isSome) → (∀ b, bl p' b → w.heap.size ≤ b) → (∀ b, bl q b → w.heap.size ≤ b) → Fr (fun _ => False) w w' → k (.tuple #[.slice p' os.length c', .slice q os.length d]) w') : F30 k p os.length c w := by
  obtain ⟨i87, g1, g2, g3, g4⟩ := inf87
  unfold F30
  refine F30_L1_rule (I := fun op ol oc hp hl hc sp sl sc n i w' => sp = p ∧ sl = os.length ∧ sc = c ∧ n = ((os.length : Nat) : Int) ∧ ∃ t : Nat, i = ((t : Nat) : Int) ∧ t ≤ os.length ∧ ol = t ∧ hl = t ∧ SlO (DoK 42) w' op t oc ((os.take t).map fun o => pdO (o.map Dtn.pl)) ∧ SlO BoK w' hp t hc ((os.take t).map Option.isSome) ∧ (∀ b, bl op b → w.heap.size ≤ b) ∧ (∀ b, bl hp b → w.heap.size ≤ b) ∧ Fr (fun _ => False) w w')
    (μ := fun op ol oc hp hl hc sp sl sc n i w' => os.length - i.toNat) ?_ ⟨rfl, rfl, rfl, rfl, 0, rfl, Nat.zero_le _, rfl, rfl, SlO.nil _ _, SlO.nil _ _, (fun b ⟨_, h, _⟩ => by cases h), (fun b ⟨_, h, _⟩ => by cases h), Fr.refl _ _⟩
  rintro op ol oc hp hl' hc sp sl sc n i w1 ⟨e0, e1, e2, rfl, t, rfl, ht, e3, e4, O1, H1, hop, hhp, f1⟩
  obtain rfl := e0.symm
  obtain rfl := e2.symm
  unfold F30_L1
  rw [e1, e3, e4]
  have hz1 := f1.size
  by_cases hlt : t < os.length
  · rw [decide_eq_true (show ((t : Nat) : Int) < ((os.length : Nat) : Int) by omega), BIf_true]
    have hx : os[t]? = some os[t] := List.getElem?_eq_getElem hlt
    have hmem : os[t] ∈ os := List.getElem_mem hlt
    generalize os[t] = o at hx hmem
    have Ow := O.fr f1 fun _ _ => id
    obtain ⟨q2, rest2, hpp, hB2, _, _⟩ := Ow.get (by omega)
    rw [hpp, NN_mk, Req_iff, Int.toNat_natCast, add_mk, Nat.zero_add]
    refine ⟨by omega, load_any (v := rdE o) hB2 (by rw [List.getElem?_append_left (by simpa using hlt), List.getElem?_map, hx]; rfl) (ta_rd ?_)⟩
    have okx : Sl In64K w1 (o.getD dtn0).p (o.getD dtn0).pos := by
      cases ho : o with
      | none => exact Sl.nil _ _ _
      | some x => exact ((ok o hmem x ho).fr0 f1).1
    have hpd := pdO_pl o
    generalize o.getD dtn0 = y at okx hpd
    refine new_intro fun n w2 e2' b2 f2 z2 => ?_
    refine store_intro (i := 0) b2 (by simp) rfl fun w3 b3 f3 z3 => ?_
    refine store_intro (i := 1) b3 (by simp) rfl fun w4 b4 f4 z4 => ?_
    have b4 : Blk w4 n 89 [.slice y.p y.pos.length y.c, .int .i64 y.val] := b4
    have f14 : Fr (fun _ => False) w1 w4 := by
      have : Fr (fun b => b = n) w1 w4 := ((f2.mono (S' := fun b => b = n) fun _ h => h.elim).trans f3 fun _ h => .inl h).trans f4 fun _ h => .inl h
      exact this.mono fun b h => .inr (by have h : b = n := h; omega)
    refine load_slice (i := 0) b4 rfl (load_int (i := 1) b4 rfl ?_)
    refine build_intro und46 g1 g2 (by omega) (by omega) (fill87 y.p y.pos.length y.c _ i87 g3) fun w5 f5 b5 z5 => ?_
    have f15 := f14.trans f5 fun _ h => h.elim
    have O5 := O1.fr0 f15
    have z15 := f15.size
    refine SlO.append (K := DoK 42) und46 g1 g2 g3 (by decide) rfl g4 (by decide) O5 b5 (ys := [y.pl]) (Rows.one ⟨y.p, y.c, rfl, rfl, okx.fr0 f15⟩) rfl rfl (fun u hu => ?_) (by omega) fun p' c' w6 f6 O6 hp6 => ?_
    · simp only [List.mem_cons, List.not_mem_nil, or_false] at hu
      rcases hu with rfl | rfl <;> rfl
    have T6 : Tys (fun b => bl op b) w5 [42] := O5.ty
    have H6 := (H1.fr0 f15).fr f6 T6 (by decide)
    refine bld_bo fun n7 w7 e7 b7 f7 z7 => ?_
    have H7 := H6.fr0 f7
    refine app_bo H7 b7 (by omega) fun p8 c8 w8 f8 H8 hp8 => ?_
    have T8 : Tys (fun b => bl hp b) w7 [4] := H7.ty
    have O8 := (O6.fr0 f7).fr f8 T8 (by decide)
    rw [addI_i64 (by omega) (by omega), show ((t : Nat) : Int) + 1 = ((t + 1 : Nat) : Int) by omega]
    have z6 := f6.size
    have z7' := f7.size
    refine ⟨⟨rfl, by trivial, by trivial, by trivial, t + 1, by trivial, hlt, by trivial, by trivial, ?_, ?_, fun b hb => ?_, fun b hb => ?_, (((f1.trans f15 fun _ h => h.elim).trans f6 fun b hb => .inr (hop b hb)).trans f7 fun _ h => h.elim).trans f8 fun b hb => .inr (hhp b hb)⟩, by show os.length - ((t + 1 : Nat) : Int).toNat < os.length - ((t : Nat) : Int).toNat; omega⟩
    · rw [take_snoc hx, List.map_append, List.map_cons, List.map_nil, hpd]; exact O8
    · rw [take_snoc hx, List.map_append, List.map_cons, List.map_nil]; exact H8
    · rcases hp6 b hb with h | h
      · exact hop b h
      · omega
    · rcases hp8 b hb with h | h
      · exact hhp b h
      · omega
  · rw [decide_eq_false (show ¬ ((t : Nat) : Int) < ((os.length : Nat) : Int) by omega), BIf_false]
    have : t = os.length := by omega
    subst this
    rw [List.take_length] at O1 H1
    exact hk w1 op oc hp hc O1 H1 hop hhp f1
/-- answerDots. -/
theorem F24_spec {os : List (Option Dtn)} {p : Option Addr} {c : Nat} (O : Own w 76 p os.length c (os.map rdE)) (ok : ∀ o ∈ os, ∀ x, o = some x → DtOk w x) (hl : os.length < 1000000)
    (hk : ∀ w' p' c' q d, SlO (DoK 42) w' p' os.length c' (os.map fun o => pdO (o.map Dtn.pl)) → SlO BoK w' q os.length d (os.map Option.isSome) → Fr (fun _ => False) w w' → k (.agg #[.slice p' os.length c', .slice q os.length d, .slice none 0 0, .int .u64 0]) w') : F24 k p os.length c w := by
  unfold F24
  refine new_intro fun n2 w1 e1 b1 f1 z1 => new_intro fun n3 w2 e2 b2 f2 z2 => ?_
  have f02 := f1.trans f2 fun _ h => h.elim
  have b12 := b1.fr f2 id
  refine F30_call (F30_spec (O.fr f02 fun _ _ => id) (fun o ho x hx => (ok o ho x hx).fr0 f02) hl fun w3 p' c' q d A H hp hq f3 => back_ss ?_)
  have b13 := b12.fr f3 id
  have b23 := b2.fr f3 id
  refine store_intro (i := 0) b23 (by simp) rfl fun w4 b4 f4 z4 => ?_
  refine store_intro (i := 1) b4 (by simp) rfl fun w5 b5 f5 z5 => ?_
  have b5 : Blk w5 n3 38 [.slice p' os.length c', .slice q os.length d, .slice none 0 0, .int .u64 0] := b5
  refine load_slice (i := 0) b5 rfl (load_slice (i := 1) b5 rfl (load_slice (i := 2) b5 rfl (load_int (i := 3) b5 rfl ?_)))
  have f35 : Fr (fun b => b = n3) w3 w5 := f4.trans f5 fun _ h => .inl h
  have b15 := b13.fr f35 (fun e => by omega)
  refine store_intro (i := 0) b15 (by simp) rfl fun w6 b6 f6 z6 => ?_
  refine store_intro (i := 1) b6 (by simp) rfl fun w7 b7 f7 z7 => ?_
  refine store_intro (i := 2) b7 (by simp) rfl fun w8 b8 f8 z8 => ?_
  refine store_intro (i := 3) b8 (by simp) rfl fun w9 b9 f9 z9 => ?_
  have b9 : Blk w9 n2 38 [.slice p' os.length c', .slice q os.length d, .slice none 0 0, .int .u64 0] := b9
  refine load_slice (i := 0) b9 rfl (load_slice (i := 1) b9 rfl (load_slice (i := 2) b9 rfl (load_int (i := 3) b9 rfl ?_)))
  have f59 : Fr (fun b => b = n2) w5 w9 := ((f6.trans f7 fun _ h => .inl h).trans f8 fun _ h => .inl h).trans f9 fun _ h => .inl h
  have T35 : Tys (fun b => b = n3) w3 [38] := Tys.one b23
  have T59 : Tys (fun b => b = n2) w5 [38] := Tys.one b15
  exact hk w9 p' c' q d ((A.fr f35 T35 (by decide)).fr f59 T59 (by decide)) ((H.fr f35 T35 (by decide)).fr f59 T59 (by decide)) ((((f02.trans f3 fun _ h => h.elim).trans f35 fun b hb => .inr (by have hb : b = n3 := hb; have := f1.size; omega))).trans f59 fun b hb => .inr (by have hb : b = n2 := hb; omega))
/-- dots. -/
theorem F25_spec {xs : List PD} {p : Option Addr} {c : Nat} (h : Sl (DoK 42) w p xs) (hs : ∀ x ∈ xs, x.1.length < 1000) (hl : xs.length < 1000000) (hk : ∀ w' p' c' (ys : List Dtn), Own w' 76 p' xs.length c' (ys.map Dtn.v) → ys.map Dtn.pl = xs → (∀ y ∈ ys, DtOk w' y) → Fr (fun _ => False) w w' → k (.slice p' xs.length c') w') : F25 k p xs.length c w := by
  obtain ⟨i, g1, g2, g3, g4⟩ := inf153
  unfold F25
  refine F25_L1_rule (I := fun op ol oc sp sl sc n i w' => sp = p ∧ sl = xs.length ∧ sc = c ∧ n = ((xs.length : Nat) : Int) ∧ ∃ (t : Nat) (ys : List Dtn), i = ((t : Nat) : Int) ∧ t ≤ xs.length ∧ ol = t ∧ Own w' 76 op ol oc (ys.map Dtn.v) ∧ ys.map Dtn.pl = xs.take t ∧ (∀ y ∈ ys, DtOk w' y) ∧ (∀ b, bl op b → w.heap.size ≤ b) ∧ Fr (fun _ => False) w w')
    (μ := fun op ol oc sp sl sc n i w' => xs.length - i.toNat) ?_ ⟨rfl, rfl, rfl, rfl, 0, [], rfl, Nat.zero_le _, rfl, Own.nil _ _, rfl, fun y hy => (by cases hy), (fun b ⟨_, h, _⟩ => by cases h), Fr.refl _ _⟩
  rintro op ol oc sp sl sc n i w1 ⟨e0, e1, e2, rfl, t, ys, rfl, ht, rfl, O1, hp1, hok, hop, f1⟩
  obtain rfl := e0.symm
  obtain rfl := e2.symm
  unfold F25_L1
  rw [e1]
  have hz1 := f1.size
  by_cases hlt : ol < xs.length
  · rw [decide_eq_true (show ((ol : Nat) : Int) < ((xs.length : Nat) : Int) by omega), BIf_true]
    have hx : xs[ol]? = some xs[ol] := List.getElem?_eq_getElem hlt
    have hmem := List.getElem_mem hlt
    generalize xs[ol] = x at hx hmem
    obtain ⟨q, o, rfl, dp, dc, c0, c1, hI⟩ := (h.fr0 f1).get hx
    have oky : DtOk w1 ⟨dp, dc, x.1, x.2⟩ := ⟨hI, hs _ hmem⟩
    simp only [NN_mk, Int.toNat_natCast, add_mk]
    refine ⟨by omega, LoadT_slice.2 ⟨_, _, _, c0, LoadT_int.2 ⟨_, c1, ?_⟩⟩⟩
    refine new_intro fun n w2 e2 b2 f2 z2 => ?_
    refine store_intro (i := 0) b2 (by simp) rfl fun w3 b3 f3 z3 => ?_
    refine store_intro (i := 1) b3 (by simp) rfl fun w4 b4 f4 z4 => ?_
    have f14 : Fr (fun _ => False) w1 w4 := by
      have : Fr (fun b => b = n) w1 w4 := ((f2.mono (S' := fun b => b = n) fun _ h => h.elim).trans f3 fun _ h => .inl h).trans f4 fun _ h => .inl h
      exact this.mono fun b h => .inr (by have h : b = n := h; omega)
    have b4 : Blk w4 n 42 [.slice dp x.1.length dc, .int .i64 x.2] := b4
    refine load_slice (i := 0) b4 rfl (load_int (i := 1) b4 rfl ?_)
    have O4 := O1.fr f14 fun _ _ => id
    refine append1 und143 g1 g2 g3 rfl g4 O4 (v := Dtn.v ⟨dp, dc, x.1, x.2⟩) rfl rfl (by omega) fun p' c' w7 f7 O7 hp7 z7 => ?_
    have T7 : Tys (fun b => bl op b) w4 [76] := fun b u us hb hu => by
      obtain ⟨us', h'⟩ := O4.blk hb
      rw [(hu.unique h').1]; decide
    rw [addI_i64 (by omega) (by omega)]
    have n2 : ∀ b u us, bl op b → Blk w4 b u us → u ≠ 2 := fun b u us hb hu e => by
      have := T7 b u us hb hu
      rw [e] at this; simp at this
    have z14 := f14.size
    refine ⟨⟨by trivial, by trivial, by trivial, by trivial, ol + 1, ys ++ [⟨dp, dc, x.1, x.2⟩], by omega, hlt, rfl, ?_, ?_, fun z hz => ?_, fun b hb => ?_, (f1.trans f14 fun _ h => h.elim).trans f7 fun b hb => .inr (hop b hb)⟩, ?_⟩
    · rw [List.map_append]; exact O7
    · rw [List.map_append, hp1, take_snoc hx]; rfl
    · rcases List.mem_append.1 hz with hz | hz
      · exact ((hok z hz).fr0 f14).fr f7 n2
      · rw [List.mem_singleton] at hz
        subst hz
        exact (oky.fr0 f14).fr f7 n2
    · rcases hp7 b hb with h | h
      · exact hop b h
      · omega
    · show xs.length - (((ol : Nat) : Int) + 1).toNat < xs.length - ((ol : Nat) : Int).toNat
      omega
  · rw [decide_eq_false (show ¬ ((ol : Nat) : Int) < ((xs.length : Nat) : Int) by omega), BIf_false]
    have : ol = xs.length := by omega
    subst this
    rw [List.take_length] at hp1
    exact hk w1 op oc ys O1 hp1 hok f1
end
end Go.Proofs.YtfokodpnoiilbaaGreat.E

namespace Go.Proofs.YtfokodpnoiilbaaGreat.E
open Go
set_option linter.unusedSimpArgs false
set_option linter.unusedVariables false
set_option maxRecDepth 100000
set_option maxHeartbeats 8000000

/-! ## Plain: by values -/
section
variable {α β : Type}
def mapON : (n : Nat) → (α → β) → ON α n → ON β n
  | 0, f, e => f e
  | n + 1, f, L => ((L : List (Int × ON α n)).map fun p => (p.1, mapON n f p.2) : List (Int × ON β n))
theorem mapON_new (f : α → β) : ∀ (n : Nat) (k : List Int) (e : α), mapON n f (newON n k e) = newON n k (f e)
  | 0, _, _ => rfl
  | n + 1, [], _ => rfl
  | n + 1, v :: vs, e => by
    show [(v, mapON n f (newON n vs e))] = [(v, newON n vs (f e))]
    rw [mapON_new f n]
theorem map_ins {γ δ : Type} {h : γ → δ} {f : γ → γ} {g : δ → δ} {v : Int} {x0 : γ} : ∀ {L : List (Int × γ)}, (∀ p ∈ L, h (f p.2) = g (h p.2)) → (insL v f x0 L).map (fun p => (p.1, h p.2)) = insL v g (h x0) (L.map fun p => (p.1, h p.2))
  | [], _ => rfl
  | p :: L, hh => by
    have ih := map_ins (h := h) (f := f) (g := g) (v := v) (x0 := x0) (L := L) fun q hq => hh q (List.mem_cons_of_mem _ hq)
    show List.map (fun p => (p.1, h p.2)) (if p.1 < v then p :: insL v f x0 L else if p.1 = v then (v, f p.2) :: L else (v, x0) :: p :: L) = (if p.1 < v then (p.1, h p.2) :: insL v g (h x0) (L.map fun p => (p.1, h p.2)) else if p.1 = v then (v, g (h p.2)) :: L.map (fun p => (p.1, h p.2)) else (v, h x0) :: (p.1, h p.2) :: L.map fun p => (p.1, h p.2))
    split
    · rw [List.map_cons, ih]
    · split
      · rw [List.map_cons, hh p List.mem_cons_self]
      · rfl
theorem mapON_add (f : α → β) : ∀ (n : Nat) (L : ON α n) (k : List Int) (e : α), mapON n f (addON n L k e) = addON n (mapON n f L) k (f e)
  | 0, _, _, _ => rfl
  | n + 1, L, [], e => rfl
  | n + 1, L, v :: vs, e => by
    show (insL v (fun x => addON n x vs e) (newON n vs e) (L : List (Int × ON α n))).map (fun p => (p.1, mapON n f p.2)) = insL v (fun x => addON n x vs (f e)) (newON n vs (f e)) ((L : List (Int × ON α n)).map fun p => (p.1, mapON n f p.2))
    rw [map_ins (g := fun x => addON n x vs (f e)) fun p _ => mapON_add f n p.2 vs e, mapON_new]
theorem lkp_map {γ δ : Type} {h : γ → δ} {v : Int} : ∀ L : List (Int × γ), lkp v (L.map fun p => (p.1, h p.2)) = (lkp v L).map h
  | [] => rfl
  | p :: L => by
    show (if p.1 = v then some (h p.2) else lkp v (L.map fun p => (p.1, h p.2))) = Option.map h (if p.1 = v then some p.2 else lkp v L)
    split
    · rfl
    · exact lkp_map L
theorem getON_map (f : α → β) : ∀ (n : Nat) (L : ON α n) (k : List Int), getON n (mapON n f L) k = (getON n L k).map f
  | 0, _, _ => rfl
  | n + 1, L, [] => rfl
  | n + 1, L, v :: vs => by
    show (lkp v ((L : List (Int × ON α n)).map fun p => (p.1, mapON n f p.2))).bind _ = ((lkp v (L : List (Int × ON α n))).bind _).map f
    rw [lkp_map]
    cases lkp v (L : List (Int × ON α n)) with
    | none => rfl
    | some x => exact getON_map f n x vs
theorem fltK_map (f : α → β) : ∀ (n : Nat) (L : ON α n), fltK n (mapON n f L) = (fltK n L).map fun q => (q.1, f q.2)
  | 0, _ => rfl
  | n + 1, L => by
    show ((L : List (Int × ON α n)).map fun p => (p.1, mapON n f p.2)).flatMap (fun p => (fltK n p.2).map fun q => (p.1 :: q.1, q.2)) = ((L : List (Int × ON α n)).flatMap fun p => (fltK n p.2).map fun q => (p.1 :: q.1, q.2)).map _
    rw [List.flatMap_map, List.map_flatMap]
    congr 1
    funext p
    show (fltK n (mapON n f p.2)).map _ = _
    rw [fltK_map f n, List.map_map, List.map_map]; rfl
theorem szN_map (f : α → β) (n : Nat) (L : ON α n) : szN n (mapON n f L) = szN n L := by unfold szN; rw [fltK_map, List.length_map]
theorem vis_map (lo hi : Nat → Int) (f : α → β) : ∀ (n i : Nat) (L : ON α n), vis lo hi n i (mapON n f L) = (vis lo hi n i L).map f
  | 0, _, _ => rfl
  | n + 1, i, L => by
    show (((((L : List (Int × ON α n)).map fun p => (p.1, mapON n f p.2)).drop (lbd (lo i) (((L : List (Int × ON α n)).map fun p => (p.1, mapON n f p.2)).map Prod.fst))).takeWhile fun p => decide (p.1 ≤ hi i)).flatMap fun p => vis lo hi n (i + 1) p.2) = List.map f (List.flatMap _ _)
    have e : ((L : List (Int × ON α n)).map fun p => (p.1, mapON n f p.2)).map Prod.fst = (L : List (Int × ON α n)).map Prod.fst := by rw [List.map_map]; rfl
    rw [e, ← List.map_drop, List.takeWhile_map, List.flatMap_map, List.map_flatMap]
    congr 1
    funext p
    exact vis_map lo hi f n (i + 1) p.2
theorem srt_map (f : α → β) : ∀ (n : Nat) (L : ON α n), SrtN n L → SrtN n (mapON n f L)
  | 0, _, _ => trivial
  | n + 1, L, ⟨h1, h2⟩ => by
    refine ⟨List.pairwise_map.2 h1, fun p hp => ?_⟩
    obtain ⟨q, hq, rfl⟩ := List.mem_map.1 hp
    exact srt_map f n q.2 (h2 q hq)
end
def kyP (l : List Int) : Nat → Nat → List Int
  | 0, _ => []
  | m + 1, i => plI l i :: kyP l m (i + 1)
theorem kyD_kyP (e : Dtn) : ∀ m i, kyD e m i = kyP e.pos m i
  | 0, _ => rfl
  | m + 1, i => by unfold kyD kyP; rw [kyD_kyP e m]
theorem kyP_len (l : List Int) : ∀ m i, (kyP l m i).length = m
  | 0, _ => rfl
  | m + 1, i => by unfold kyP; rw [List.length_cons, kyP_len l m]
@[reducible] def OP (dm : Nat) := ON (Option PD) dm
def addP (dm : Nat) (M : OP dm) (x : PD) : OP dm := addON dm M (kyP x.1 dm 1) (some x)
def oldP (dm : Nat) (M : OP dm) (x : PD) : Option PD := (getON dm M (kyP x.1 dm 1)).getD none
def addsP (dm : Nat) (M : OP dm) (xs : List PD) : OP dm := xs.foldl (addP dm) M
def oldsP (dm : Nat) : OP dm → List PD → List (Option PD)
  | _, [] => []
  | M, x :: xs => oldP dm M x :: oldsP dm (addP dm M x) xs
def mapE (dm : Nat) (L : ON (Option Dtn) dm) : OP dm := mapON dm (Option.map Dtn.pl) L
theorem mapE_add (dm : Nat) (L : ON (Option Dtn) dm) (e : Dtn) : mapE dm (addE dm L e) = addP dm (mapE dm L) e.pl := by
  unfold mapE addE addP
  rw [mapON_add, kyD_kyP]; rfl
theorem mapE_old (dm : Nat) (L : ON (Option Dtn) dm) (e : Dtn) : (oldE dm L e).map Dtn.pl = oldP dm (mapE dm L) e.pl := by
  unfold mapE oldE oldP
  rw [getON_map, kyD_kyP]
  show _ = ((getON dm L (kyP e.pos dm 1)).map _).getD none
  cases getON dm L (kyP e.pos dm 1) <;> rfl
theorem mapE_adds (dm : Nat) : ∀ (ys : List Dtn) (L : ON (Option Dtn) dm), mapE dm (addsE dm L ys) = addsP dm (mapE dm L) (ys.map Dtn.pl)
  | [], L => rfl
  | y :: ys, L => by
    show mapE dm (addsE dm (addE dm L y) ys) = addsP dm (addP dm (mapE dm L) y.pl) (ys.map Dtn.pl)
    rw [mapE_adds dm ys, mapE_add]
theorem mapE_olds (dm : Nat) : ∀ (ys : List Dtn) (L : ON (Option Dtn) dm), (oldsE dm L ys).map (Option.map Dtn.pl) = oldsP dm (mapE dm L) (ys.map Dtn.pl)
  | [], L => rfl
  | y :: ys, L => by
    show (oldE dm L y).map Dtn.pl :: (oldsE dm (addE dm L y) ys).map _ = oldP dm (mapE dm L) y.pl :: oldsP dm (addP dm (mapE dm L) y.pl) (ys.map Dtn.pl)
    rw [mapE_olds dm ys, mapE_add, mapE_old]
structure DStp where
  op : Int
  dots : List PD
  low : List Int
  high : List Int
  most : Nat
structure DAns where
  dots : List PD
  is : List Bool
  n : Nat
def ansD (os : List (Option PD)) : DAns := ⟨os.map pdO, os.map Option.isSome, 0⟩
def stepM (dm : Nat) (M : OP dm) (s : DStp) : OP dm := if s.op = 1 then addsP dm M s.dots else M
def stepAn (dm : Nat) (M : OP dm) (s : DStp) : DAns :=
  if s.op = 1 then ansD (oldsP dm M s.dots) else if s.op = 4 then ansD (vis (plI s.low) (plI s.high) dm 1 M) else if s.op = 5 then ansD ((vis (plI s.low) (plI s.high) dm 1 M).take (s.most + 1)) else ⟨[], [], szN dm M⟩
def runM (dm : Nat) (M : OP dm) (ss : List DStp) : OP dm := ss.foldl (stepM dm) M
def runAn (dm : Nat) : OP dm → List DStp → List DAns
  | _, [] => []
  | M, s :: ss => stepAn dm M s :: runAn dm (stepM dm M s) ss
theorem runM_snoc (dm : Nat) (M : OP dm) (ss : List DStp) (s : DStp) : runM dm M (ss ++ [s]) = stepM dm (runM dm M ss) s := by unfold runM; rw [List.foldl_append]; rfl
theorem runAn_snoc (dm : Nat) : ∀ (ss : List DStp) (M : OP dm) (s : DStp), runAn dm M (ss ++ [s]) = runAn dm M ss ++ [stepAn dm (runM dm M ss) s]
  | [], M, s => rfl
  | t :: ss, M, s => by
    show stepAn dm M t :: runAn dm (stepM dm M t) (ss ++ [s]) = stepAn dm M t :: runAn dm (stepM dm M t) ss ++ [stepAn dm (runM dm (stepM dm M t) ss) s]
    rw [runAn_snoc dm ss]; rfl
theorem runAn_length (dm : Nat) : ∀ (ss : List DStp) (M : OP dm), (runAn dm M ss).length = ss.length
  | [], _ => rfl
  | s :: ss, M => by show (runAn dm _ ss).length + 1 = _; rw [runAn_length dm ss]; rfl
def totD (ss : List DStp) : Nat := (ss.map fun s => s.dots.length).sum
theorem totD_snoc (ss : List DStp) (s : DStp) : totD (ss ++ [s]) = totD ss + s.dots.length := by unfold totD; simp
theorem totD_take (ss : List DStp) (n : Nat) : totD (ss.take n) ≤ totD ss := by
  conv => rhs; rw [← List.take_append_drop n ss]
  unfold totD
  rw [List.map_append, List.sum_append]
  omega
/-- What a step asks. -/
def okD (s : DStp) : Prop := (∀ x ∈ s.dots, x.1.length < 1000) ∧ s.low.length < 1000 ∧ s.high.length < 1000 ∧ s.most < 4294967296 ∧ (s.op = 1 ∨ s.op = 4 ∨ s.op = 5 ∨ s.op = 6)
/-! ## In memory -/
def TrB (w : World) (base tb dm B : Nat) (M : OP dm) : Prop := ∃ L, TrR w base tb dm B L ∧ mapE dm L = M
theorem FX.trB {base' : Nat} {ts : List TypeId} {w w' : World} {base tb dm B : Nat} {M : OP dm} (h : TrB w base tb dm B M) (f : FX base' ts w w') (ht : ∀ u ∈ ts, u ≠ 175 ∧ u ≠ 97 ∧ u ≠ 172 ∧ u ≠ 2 ∧ u ≠ 188) : TrB w' base tb dm B M := by
  obtain ⟨L, h1, h2⟩ := h
  exact ⟨L, f.tr h1 ht, h2⟩
theorem TrB.fr0 {w w' : World} {base tb dm B : Nat} {M : OP dm} (h : TrB w base tb dm B M) (f : Fr (fun _ => False) w w') : TrB w' base tb dm B M := FX.trB (ts := []) (base' := 0) h (.of0 f) fun u hu => by cases hu
theorem TrR.le {w : World} {base tb dm B B' : Nat} {L : ON (Option Dtn) dm} (h : TrR w base tb dm B L) (hb : B ≤ B') : TrR w base tb dm B' L := by
  obtain ⟨D, s, pp, pl, pc, h1, h2, h3, h4, h5⟩ := h
  exact ⟨D, s, pp, pl, pc, h1, ⟨h2.hx, h2.nd, h2.sr, fun b hb' => by have := h2.b1 b hb'; omega, fun b hb' => by have := h2.b2 b hb'; omega⟩, h3, by omega, h5⟩
theorem TrB.le {w : World} {base tb dm B B' : Nat} {M : OP dm} (h : TrB w base tb dm B M) (hb : B ≤ B') : TrB w base tb dm B' M := by
  obtain ⟨L, h1, h2⟩ := h
  exact ⟨L, h1.le hb, h2⟩
def DStK : Rk DStp := ⟨31, 9, fun w g s => ∃ on p c pl cl ph ch dim idx num, g 0 = some (.int .i64 s.op) ∧ g 1 = some (.int .i64 on) ∧ g 2 = some (.slice p s.dots.length c) ∧ g 3 = some (.slice pl s.low.length cl) ∧ g 4 = some (.slice ph s.high.length ch) ∧ g 5 = some (.int .u64 dim) ∧ g 6 = some (.int .i64 idx) ∧ g 7 = some (.int .i64 num) ∧ g 8 = some (.int .i64 ((s.most : Nat) : Int)) ∧ Sl (DoK 42) w p s.dots ∧ Sl In64K w pl s.low ∧ Sl In64K w ph s.high, [42, 2],
  fun h ⟨on, p, c, pl, cl, ph, ch, dim, idx, num, h0, h1, h2, h3, h4, h5, h6, h7, h8, h9⟩ => ⟨on, p, c, pl, cl, ph, ch, dim, idx, num, by rw [← h 0 (by decide)]; exact h0, by rw [← h 1 (by decide)]; exact h1, by rw [← h 2 (by decide)]; exact h2, by rw [← h 3 (by decide)]; exact h3, by rw [← h 4 (by decide)]; exact h4, by rw [← h 5 (by decide)]; exact h5, by rw [← h 6 (by decide)]; exact h6, by rw [← h 7 (by decide)]; exact h7, by rw [← h 8 (by decide)]; exact h8, h9⟩,
  fun f hd ⟨on, p, c, pl, cl, ph, ch, dim, idx, num, h0, h1, h2, h3, h4, h5, h6, h7, h8, h9, h10, h11⟩ => ⟨on, p, c, pl, cl, ph, ch, dim, idx, num, h0, h1, h2, h3, h4, h5, h6, h7, h8, sl_dp h9 f hd (by simp [DoK]) (fun u hu => by simp [DoK] at hu; simp [hu]), sl_dp h10 f hd (by simp [In64K]) (fun u hu => by cases hu), sl_dp h11 f hd (by simp [In64K]) (fun u hu => by cases hu)⟩⟩
def DAnK : Rk DAns := ⟨38, 4, fun w g s => ∃ p c q d, g 0 = some (.slice p s.dots.length c) ∧ g 1 = some (.slice q s.is.length d) ∧ g 2 = some (.slice none 0 0) ∧ g 3 = some (.int .u64 ((s.n : Nat) : Int)) ∧ Sl (DoK 42) w p s.dots ∧ Sl BoK w q s.is, [42, 2, 4],
  fun h ⟨p, c, q, d, h0, h1, h2, h3, h4⟩ => ⟨p, c, q, d, by rw [← h 0 (by decide)]; exact h0, by rw [← h 1 (by decide)]; exact h1, by rw [← h 2 (by decide)]; exact h2, by rw [← h 3 (by decide)]; exact h3, h4⟩,
  fun f hd ⟨p, c, q, d, h0, h1, h2, h3, h4, h5⟩ => ⟨p, c, q, d, h0, h1, h2, h3, sl_dp h4 f hd (by simp [DoK]) (fun u hu => by simp [DoK] at hu; simp [hu]), sl_dp h5 f hd (by simp [BoK]) (fun u hu => by simp [BoK] at hu)⟩⟩
def z59 : Value := .agg #[.slice none 0 0, .slice none 0 0, .slice none 0 0, .int .u64 0]
theorem und55 : Tryz.prog.underlying 33 = some (.slice 38) := by kernel_rfl
theorem inf59 : ∃ i, Tryz.prog.info? 38 = some i ∧ i.zero = some z59 ∧ i.size = 4 ∧ i.bytes ≤ 4096 := ⟨_, rfl, by kernel_rfl, by kernel_rfl, Nat.le_of_ble_eq_true (by kernel_rfl)⟩
theorem fill59 (p : Option Addr) (l c : Nat) (q : Option Addr) (m d : Nat) (r : Option Addr) (a b : Nat) (i : Int) : ∀ i' : TypeInfo, i'.size = 4 → Instr.fill (fun j => some (j * i'.size, i'.size)) ((Array.range (1 * i'.size)).map (z59.cells[· % z59.cells.size]!)) [(0, .agg #[.slice p l c, .slice q m d, .slice r a b, .int .u64 i])] = some [.slice p l c, .slice q m d, .slice r a b, .int .u64 i].toArray := by
  intro i' h; rw [h]; kernel_rfl
theorem m_radd (p a : Option Addr) (l c : Nat) (w : World) : (callMethod (.iface 81 (.pointer p)) "Add" [.slice a l c].toArray).run Tryz.prog w = .ok (.enter 87 #[.pointer p, .slice a l c]) w := by kernel_rfl
theorem m_rlen (p : Option Addr) (w : World) : (callMethod (.iface 81 (.pointer p)) "Len" [].toArray).run Tryz.prog w = .ok (.enter 92 #[.pointer p]) w := by kernel_rfl
theorem m_rque (p : Option Addr) (v : Value) (w : World) : (callMethod (.iface 81 (.pointer p)) "Query" [v].toArray).run Tryz.prog w = .ok (.enter 93 #[.pointer p, v]) w := by kernel_rfl
theorem m_rapp (p : Option Addr) (v f : Value) (w : World) : (callMethod (.iface 81 (.pointer p)) "Apply" [v, f].toArray).run Tryz.prog w = .ok (.enter 88 #[.pointer p, v, f]) w := by kernel_rfl
section
variable {w : World} {k : Value → W}
theorem mo_radd {p : Option Addr} {x : W} (h : x w) : MethOk Tryz.prog (.func (.method "Add") #[.iface 81 (.pointer p)] #[]) x w := ⟨fun w' => by kernel_rfl, h⟩
theorem mo_rque {p : Option Addr} {x : W} (h : x w) : MethOk Tryz.prog (.func (.method "Query") #[.iface 81 (.pointer p)] #[]) x w := ⟨fun w' => by kernel_rfl, h⟩
theorem mo_rapp {p : Option Addr} {x : W} (h : x w) : MethOk Tryz.prog (.func (.method "Apply") #[.iface 81 (.pointer p)] #[]) x w := ⟨fun w' => by kernel_rfl, h⟩
theorem back_da {f : Option Addr → Nat → Nat → Option Addr → Nat → Nat → Option Addr → Nat → Nat → Int → W} {p q r : Option Addr} {l c m d a b : Nat} {n : Int} (h : f p l c q m d r a b n w) : Back (.s (.agg [.slice, .slice, .slice, (.int .u64)])) f (.returned (.agg #[.slice p l c, .slice q m d, .slice r a b, .int .u64 n])) w := ⟨((p, l, c), (q, m, d), (r, a, b), n, ()), rfl, h⟩
/-- The answer is written, and read. -/
theorem fin33 {n : Nat} {vs : List Value} {p q r : Option Addr} {l c m d a b : Nat} {x : Int} (hB : Blk w n 38 vs) (hv : vs.length = 4) (hk : ∀ w', Fr (fun b => b = n) w w' → k (.agg #[.slice p l c, .slice q m d, .slice r a b, .int .u64 x]) w') :
    (Store1 ⟨n, 0, none⟩ (.slice p l c) <|
     Store1 ⟨n, 1, none⟩ (.slice q m d) <|
     Store1 ⟨n, 2, none⟩ (.slice r a b) <|
     Store1 ⟨n, 3, none⟩ (.int .u64 x) <|
     LoadT .slice ⟨n, 0, none⟩ fun s1p s1l s1c =>
     LoadT .slice ⟨n, 1, none⟩ fun s2p s2l s2c =>
     LoadT .slice ⟨n, 2, none⟩ fun s3p s3l s3c =>
     LoadT (.int .u64) ⟨n, 3, none⟩ fun x4 =>
     k (.agg #[.slice s1p s1l s1c, .slice s2p s2l s2c, .slice s3p s3l s3c, .int .u64 x4])) w := by
  obtain ⟨v0, v1, v2, v3, rfl⟩ : ∃ v0 v1 v2 v3, vs = [v0, v1, v2, v3] := by
    match vs, hv with
    | [v0, v1, v2, v3], _ => exact ⟨v0, v1, v2, v3, rfl⟩
  refine store_intro (i := 0) hB (by simp) rfl fun w1 b1 f1 z1 => ?_
  refine store_intro (i := 1) b1 (by simp) rfl fun w2 b2 f2 z2 => ?_
  refine store_intro (i := 2) b2 (by simp) rfl fun w3 b3 f3 z3 => ?_
  refine store_intro (i := 3) b3 (by simp) rfl fun w4 b4 f4 z4 => ?_
  have b4 : Blk w4 n 38 [.slice p l c, .slice q m d, .slice r a b, .int .u64 x] := b4
  refine load_slice (i := 0) b4 rfl (load_slice (i := 1) b4 rfl (load_slice (i := 2) b4 rfl (load_int (i := 3) b4 rfl ?_)))
  exact hk w4 (((f1.trans f2 fun _ h => .inl h).trans f3 fun _ h => .inl h).trans f4 fun _ h => .inl h)
/-- between. -/
theorem F26_spec {bx : Bx} {x1 x2 : Int} {s3p : Option Addr} {s3l s3c : Nat} {x6 x7 x8 x9 : Int} (hk : ∀ w', Fr (fun _ => False) w w' → k bx.v w') : F26 k x1 x2 s3p s3l s3c bx.p bx.lo.length bx.c bx.q bx.hi.length bx.d x6 x7 x8 x9 w := by
  unfold F26
  refine new_intro fun n w1 e1 b1 f1 z1 => load_slice (i := 3) b1 rfl (load_slice (i := 4) b1 rfl (hk w1 f1))
end
end Go.Proofs.YtfokodpnoiilbaaGreat.E

namespace Go.Proofs.YtfokodpnoiilbaaGreat.E
open Go
set_option linter.unusedSimpArgs false
set_option linter.unusedVariables false
set_option maxRecDepth 100000
set_option maxHeartbeats 8000000

/-- The types of blocks that a step may turn. -/
def tsR : List TypeId := [175, 97, 172, 70, 76]
theorem Fy.x {base : Nat} {w w' : World} : Fy base w w' → FX base tsR w w' := fun ⟨S, f, h, g⟩ => ⟨S, f, fun b u us hb hu => by have := h b u us hb hu; simp only [List.mem_cons, List.not_mem_nil, or_false] at this; rcases this with e | e | e <;> rw [e] <;> decide, g⟩
theorem Ft.x {base : Nat} {w w' : World} : Ft base w w' → FX base [70, 76] w w' := fun h => h
theorem Ft.xr {base : Nat} {w w' : World} (h : Ft base w w') : FX base tsR w w' := h.x.mono fun u hu => by simp only [List.mem_cons, List.not_mem_nil, or_false] at hu; rcases hu with e | e <;> rw [e] <;> decide
theorem olds_len (dm : Nat) : ∀ (xs : List PD) (M : OP dm), (oldsP dm M xs).length = xs.length
  | [], _ => rfl
  | x :: xs, M => by show (oldsP dm _ xs).length + 1 = _; rw [olds_len dm xs]; rfl
section
variable {w : World} {k : Value → W} {base tb dm B : Nat} {M : OP dm}
/-- A step. -/
theorem F18_spec {s : DStp} {on dim idx num : Int} {p pl ph : Option Addr} {c cl ch : Nat} (h : TrB w base tb dm B M) (hS : Sl (DoK 42) w p s.dots) (hlo : Sl In64K w pl s.low) (hhi : Sl In64K w ph s.high) (ok : okD s) (hd1 : 1 ≤ dm) (hdm : dm < 1000) (hB : B + s.dots.length < 90000)
    (hk : ∀ w' p' c' q d, TrB w' base tb dm (B + s.dots.length) (stepM dm M s) → Sl (DoK 42) w' p' (stepAn dm M s).dots → Sl BoK w' q (stepAn dm M s).is → FX base tsR w w' → k (.agg #[.slice p' (stepAn dm M s).dots.length c', .slice q (stepAn dm M s).is.length d, .slice none 0 0, .int .u64 (((stepAn dm M s).n : Nat) : Int)]) w') :
    F18 k (.iface 81 (.pointer (some ⟨tb, 0, none⟩))) s.op on p s.dots.length c pl s.low.length cl ph s.high.length ch dim idx num ((s.most : Nat) : Int) w := by
  obtain ⟨hsh, hll, hhl, hmo, hops⟩ := ok
  unfold F18
  refine new_intro fun n11 w1 e1 b1 f1 z1 => new_intro fun n12 w2 e2 b2 f2 z2 => ?_
  have b1 := b1.fr f2 id
  have f02 : Fr (fun _ => False) w w2 := f1.trans f2 fun _ h => h.elim
  have z02 := f02.size
  refine load_int (i := 0) b1 rfl ?_
  -- the end: an answer of entries
  have fin : ∀ (wz : World) (os : List (Option Dtn)) (p' : Option Addr) (c' : Nat) (q : Option Addr) (d : Nat), TrB wz base tb dm (B + s.dots.length) (stepM dm M s) → ansD (os.map (Option.map Dtn.pl)) = stepAn dm M s → Blk wz n12 38 [.slice none 0 0, .slice none 0 0, .slice none 0 0, .int .u64 0] →
      SlO (DoK 42) wz p' os.length c' (os.map fun o => pdO (o.map Dtn.pl)) → SlO BoK wz q os.length d (os.map Option.isSome) → FX base tsR w wz →
      (Store1 ⟨n12, 0, none⟩ (.slice p' os.length c') <|
       Store1 ⟨n12, 1, none⟩ (.slice q os.length d) <|
       Store1 ⟨n12, 2, none⟩ (.slice none 0 0) <|
       Store1 ⟨n12, 3, none⟩ (.int .u64 0) <|
       LoadT .slice ⟨n12, 0, none⟩ fun s1p s1l s1c =>
       LoadT .slice ⟨n12, 1, none⟩ fun s2p s2l s2c =>
       LoadT .slice ⟨n12, 2, none⟩ fun s3p s3l s3c =>
       LoadT (.int .u64) ⟨n12, 3, none⟩ fun x4 =>
       k (.agg #[.slice s1p s1l s1c, .slice s2p s2l s2c, .slice s3p s3l s3c, .int .u64 x4])) wz := fun wz os p' c' q d hz ea bz A H fz => by
    refine fin33 bz rfl fun w' f' => ?_
    have T : Tys (fun b => b = n12) wz [38] := Tys.one bz
    have ed : (stepAn dm M s).dots = os.map fun o => pdO (o.map Dtn.pl) := by rw [← ea]; unfold ansD; rw [List.map_map]; rfl
    have ei : (stepAn dm M s).is = os.map Option.isSome := by
      rw [← ea]
      show (os.map (Option.map Dtn.pl)).map Option.isSome = _
      rw [List.map_map]
      exact List.map_congr_left fun o _ => by cases o <;> rfl
    have en : (stepAn dm M s).n = 0 := by rw [← ea]; rfl
    have := hk w' p' c' q d (FX.trB hz ⟨_, f', T, fun _ _ => Nat.zero_le _⟩ (by decide)) (by rw [ed]; exact A.sl.fr f' T (by decide)) (by rw [ei]; exact H.sl.fr f' T (by decide)) (fz.new f' fun b hb => by have hb : b = n12 := hb; omega)
    rw [ed, ei, en, List.length_map, List.length_map] at this
    exact this
  rcases hops with o1 | o4 | o5 | o6
  · have eM : stepM dm M s = addsP dm M s.dots := if_pos o1
    have eA : stepAn dm M s = ansD (oldsP dm M s.dots) := if_pos o1
    rw [show (s.op == 1) = true by rw [o1]; rfl, BIf_true]
    refine drw_intro fun w3 f3 z3 => ?_
    have b13 := b1.fr f3 id
    refine load_slice (i := 2) b13 rfl (mo_radd ?_)
    have f03 := f02.trans f3 fun _ h => h.elim
    refine F25_call (F25_spec (hS.fr0 f03) hsh (by omega) fun w4 p4 c4 ys O4 hys ok4 f4 => back_slice ?_)
    have f04 := f03.trans f4 fun _ h => h.elim
    have hyl : s.dots.length = ys.length := by rw [← hys, List.length_map]
    obtain ⟨L, hT, hL⟩ := h.fr0 f04
    rw [hyl] at O4 hB
    have b14 := b13.fr f4 id
    have hsl : (Value.slice p s.dots.length c) = (Value.slice p ys.length c) := by rw [hyl]
    rw [hyl]
    refine NextT_enterR (m_radd _ _ _ _ w4) (F87_calls (F87_spec hT O4 ok4 hd1 hdm hB fun w5 p5 c5 hT5 O5 ok5 f5 => back_slice ?_))
    have b15 := f5.x.blk b14 (by decide)
    refine chk (i := 2) b15 (by rw [← hyl]; rfl) ?_
    have hol := oldsE_length dm ys L
    rw [← hol] at O5
    rw [← hol]
    refine F24_call (F24_spec O5 ok5 (by rw [hol]; omega) fun w6 p6 c6 q6 d6 A6 H6 f6 => back_da ?_)
    refine chk (i := 2) (b15.fr f6 id) (by rw [hol, ← hyl]; rfl) ?_
    refine fin w6 _ p6 c6 q6 d6 ?_ ?_ ((f5.x.blk ((b2.fr f3 id).fr f4 id) (by decide)).fr f6 id) A6 H6 (((FX.of0 f04).trans f5.x).trans (.of0 f6))
    · rw [eM, hyl, ← hys, ← hL]
      exact ⟨_, hT5.fr0 f6, mapE_adds dm ys L⟩
    · rw [eA, mapE_olds, hL, hys]
  · have eM : stepM dm M s = M := if_neg (by omega)
    have eA : stepAn dm M s = ansD (vis (plI s.low) (plI s.high) dm 1 M) := by unfold stepAn; rw [if_neg (by omega), if_pos o4]
    rw [show (s.op == 1) = false from beq_eq_false_iff_ne.2 (by omega), BIf_false, show (s.op == 2) = false from beq_eq_false_iff_ne.2 (by omega), BIf_false, show (s.op == 3) = false from beq_eq_false_iff_ne.2 (by omega), BIf_false, show (s.op == 4) = true by rw [o4]; rfl, BIf_true]
    refine drw_intro fun w3 f3 z3 => ?_
    have b13 := b1.fr f3 id
    have f03 := f02.trans f3 fun _ h => h.elim
    refine load_int (i := 0) b13 rfl (load_int (i := 1) b13 rfl (load_slice (i := 2) b13 rfl (load_slice (i := 3) b13 rfl (load_slice (i := 4) b13 rfl (load_int (i := 5) b13 rfl (load_int (i := 6) b13 rfl (load_int (i := 7) b13 rfl (load_int (i := 8) b13 rfl (mo_rque ?_)))))))))
    refine F26_call (F26_spec (bx := ⟨pl, cl, s.low, ph, ch, s.high⟩) fun w4 f4 => back_any ?_)
    have f04 := f03.trans f4 fun _ h => h.elim
    obtain ⟨L, hT, hL⟩ := h.fr0 f04
    have b14 := b13.fr f4 id
    refine NextT_enterR (m_rque _ _ w4) (F93_calls (F93_spec (bx := ⟨pl, cl, s.low, ph, ch, s.high⟩) hT ⟨hlo.fr0 f04, hhi.fr0 f04, hll, hhl⟩ hd1 hdm (by omega) fun w5 p5 c5 O5 ok5 f5 => back_slice ?_))
    have b15 := f5.x.blk b14 (by decide)
    refine chk (i := 0) b15 rfl (chk (i := 1) b15 rfl (chk (i := 2) b15 rfl (chk (i := 3) b15 rfl (chk (i := 4) b15 rfl (chk (i := 5) b15 rfl (chk (i := 6) b15 rfl (chk (i := 7) b15 rfl (chk (i := 8) b15 rfl ?_))))))))
    have hvl := vis_len (plI s.low) (plI s.high) dm 1 L
    obtain ⟨_, _, _, _, _, _, _, _, hsz⟩ := id hT
    refine F24_call (F24_spec O5 ok5 (by show (vis (plI s.low) (plI s.high) dm 1 L).length < _; omega) fun w6 p6 c6 q6 d6 A6 H6 f6 => back_da ?_)
    have b16 := b15.fr f6 id
    refine chk (i := 0) b16 rfl (chk (i := 1) b16 rfl (chk (i := 2) b16 rfl (chk (i := 3) b16 rfl (chk (i := 4) b16 rfl (chk (i := 5) b16 rfl (chk (i := 6) b16 rfl (chk (i := 7) b16 rfl (chk (i := 8) b16 rfl ?_))))))))
    refine fin w6 _ p6 c6 q6 d6 ?_ ?_ ((f5.x.blk ((b2.fr f3 id).fr f4 id) (by decide)).fr f6 id) A6 H6 (((FX.of0 f04).trans f5.xr).trans (.of0 f6))
    · rw [eM, ← hL]
      exact ⟨_, ((f5.x.tr hT (by decide)).fr0 f6).le (by omega), rfl⟩
    · rw [eA, ← hL]
      unfold mapE
      rw [vis_map]
  · have eM : stepM dm M s = M := if_neg (by omega)
    have eA : stepAn dm M s = ansD ((vis (plI s.low) (plI s.high) dm 1 M).take (s.most + 1)) := by unfold stepAn; rw [if_neg (by omega), if_neg (by omega), if_pos o5]
    rw [show (s.op == 1) = false from beq_eq_false_iff_ne.2 (by omega), BIf_false, show (s.op == 2) = false from beq_eq_false_iff_ne.2 (by omega), BIf_false, show (s.op == 3) = false from beq_eq_false_iff_ne.2 (by omega), BIf_false, show (s.op == 4) = false from beq_eq_false_iff_ne.2 (by omega), BIf_false, show (s.op == 5) = true by rw [o5]; rfl, BIf_true]
    refine new_intro fun n66 w0 e0 b0 f0 z0 => ?_
    refine drw_intro fun w3 f3' z3 => ?_
    have f3 : Fr (fun _ => False) w2 w3 := f0.trans f3' fun _ h => h.elim
    have b13 := b1.fr f3 id
    have f03 := f02.trans f3 fun _ h => h.elim
    refine load_int (i := 0) b13 rfl (load_int (i := 1) b13 rfl (load_slice (i := 2) b13 rfl (load_slice (i := 3) b13 rfl (load_slice (i := 4) b13 rfl (load_int (i := 5) b13 rfl (load_int (i := 6) b13 rfl (load_int (i := 7) b13 rfl (load_int (i := 8) b13 rfl (mo_rapp ?_)))))))))
    refine F26_call (F26_spec (bx := ⟨pl, cl, s.low, ph, ch, s.high⟩) fun w4 f4 => back_any ?_)
    have f04 := f03.trans f4 fun _ h => h.elim
    obtain ⟨L, hT, hL⟩ := h.fr0 f04
    have b14 := b13.fr f4 id
    have hbase : base ≤ w.heap.size := by
      obtain ⟨L, ⟨D, s, pp, pl, pc, h1, _⟩, _⟩ := h
      have := (h1.lo tb (.inl rfl)).1
      have := h1.top.lt; omega
    have hG : Gat base n66 [] w4 := ⟨none, 0, (b0.fr f3' id).fr f4 id, Own.nil _ _, fun o ho => (by cases ho), by omega, fun b ⟨_, h, _⟩ => by cases h⟩
    refine NextT_enterR (m_rapp _ _ _ w4) (F88_calls (F88_spec (bx := ⟨pl, cl, s.low, ph, ch, s.high⟩) hT ⟨hlo.fr0 f04, hhi.fr0 f04, hll, hhl⟩ hd1 hdm (by omega) hG b14 fun w5 g5 f5 => back0 ?_))
    have b15 := f5.x.blk b14 (by decide)
    refine chk (i := 0) b15 rfl (chk (i := 1) b15 rfl (chk (i := 2) b15 rfl (chk (i := 3) b15 rfl (chk (i := 4) b15 rfl (chk (i := 5) b15 rfl (chk (i := 6) b15 rfl (chk (i := 7) b15 rfl (chk (i := 8) b15 rfl ?_))))))))
    obtain ⟨p5, c5, g1, O5, ok5, _⟩ := g5
    have hvl := vis_len (plI s.low) (plI s.high) dm 1 L
    obtain ⟨_, _, _, _, _, _, _, _, hsz⟩ := id hT
    refine load_slice (i := 0) g1 rfl ?_
    refine F24_call (F24_spec O5 ok5 (by show ((vis (plI s.low) (plI s.high) dm 1 L).take _).length < _; rw [List.length_take]; omega) fun w6 p6 c6 q6 d6 A6 H6 f6 => back_da ?_)
    refine fin w6 _ p6 c6 q6 d6 ?_ ?_ ((f5.x.blk ((b2.fr f3 id).fr f4 id) (by decide)).fr f6 id) A6 H6 (((FX.of0 f04).trans f5.xr).trans (.of0 f6))
    · rw [eM, ← hL]
      exact ⟨_, ((f5.x.tr hT (by decide)).fr0 f6).le (by omega), rfl⟩
    · rw [eA, ← hL]
      unfold mapE
      rw [vis_map, List.map_take]
  · have eM : stepM dm M s = M := if_neg (by omega)
    have eA : stepAn dm M s = ⟨[], [], szN dm M⟩ := by unfold stepAn; rw [if_neg (by omega), if_neg (by omega), if_neg (by omega)]
    rw [show (s.op == 1) = false from beq_eq_false_iff_ne.2 (by omega), BIf_false, show (s.op == 2) = false from beq_eq_false_iff_ne.2 (by omega), BIf_false, show (s.op == 3) = false from beq_eq_false_iff_ne.2 (by omega), BIf_false, show (s.op == 4) = false from beq_eq_false_iff_ne.2 (by omega), BIf_false, show (s.op == 5) = false from beq_eq_false_iff_ne.2 (by omega), BIf_false, show (s.op == 6) = true by rw [o6]; rfl, BIf_true]
    obtain ⟨L, hT, hL⟩ := h.fr0 f02
    refine NextT_enterR (m_rlen _ w2) (F92_calls (F92_spec hT (back_int ?_)))
    refine fin33 b2 rfl fun w' f' => ?_
    have T : Tys (fun b => b = n12) w2 [38] := Tys.one b2
    have := hk w' none 0 none 0 (FX.trB (by rw [eM]; exact ⟨L, hT.le (by omega), hL⟩) ⟨_, f', T, fun _ _ => Nat.zero_le _⟩ (by decide)) (by rw [eA]; exact Sl.nil _ _ _) (by rw [eA]; exact Sl.nil _ _ _) ((FX.of0 f02).new f' fun b hb => by have hb : b = n12 := hb; omega)
    rw [eA, ← hL] at this
    have es : szN dm (mapE dm L) = szN dm L := szN_map _ dm L
    rw [es] at this
    exact this
/-- RTRun. -/
theorem F8_spec {ss : List DStp} {sp : Option Addr} {sc : Nat} (hd1 : 1 ≤ dm) (hdm : dm < 1000) (hS : Sl DStK w sp ss) (ok : ∀ s ∈ ss, okD s) (hl : ss.length < 1000) (ht : totD ss < 80000)
    (hk : ∀ w' p c, Sl DAnK w' p (runAn dm (mapE dm (nilN dm)) ss) → Fr (fun _ => False) w w' → k (.slice p ss.length c) w') : F8 k ((dm : Nat) : Int) sp ss.length sc w := by
  obtain ⟨i59, g1, g2, g3, g4⟩ := inf59
  unfold F8
  refine F17_call (F17_spec (base := w.heap.size) hd1 hdm (Nat.le_refl _) fun w0 tb h0 f0 => back_any ?_)
  generalize hM0 : mapE dm (nilN dm) = M0 at hk
  have h0 : TrB w0 w.heap.size tb dm 0 M0 := ⟨_, h0, hM0⟩
  refine F8_L1_rule (I := fun t' op ol oc sp' sl' sc' n j w' => t' = .iface 81 (.pointer (some ⟨tb, 0, none⟩)) ∧ sp' = sp ∧ sl' = ss.length ∧ sc' = sc ∧ n = ((ss.length : Nat) : Int) ∧ ∃ t : Nat, j = ((t : Nat) : Int) ∧ t ≤ ss.length ∧ ol = t ∧ TrB w' w.heap.size tb dm (totD (ss.take t)) (runM dm M0 (ss.take t)) ∧
      SlO DAnK w' op ol oc (runAn dm M0 (ss.take t)) ∧ (∀ b, bl op b → w.heap.size ≤ b) ∧ FX w.heap.size tsR w w')
    (μ := fun t' op ol oc sp' sl' sc' n j w' => ss.length - j.toNat) ?_ ⟨rfl, rfl, rfl, rfl, rfl, 0, rfl, Nat.zero_le _, rfl, h0, SlO.nil _ _, (fun b ⟨_, h, _⟩ => by cases h), .of0 f0⟩
  rintro _ op ol oc _ sl' sc' n j w1 ⟨rfl, rfl, e1, e2, rfl, t, rfl, htl, rfl, h1, O1, hop, f1⟩
  obtain rfl := e2.symm
  unfold F8_L1
  rw [e1]
  have hz1 := f1.size
  by_cases hlt : ol < ss.length
  · rw [decide_eq_true (show ((ol : Nat) : Int) < ((ss.length : Nat) : Int) by omega), BIf_true]
    have hx : ss[ol]? = some ss[ol] := List.getElem?_eq_getElem hlt
    have hmem : ss[ol] ∈ ss := List.getElem_mem hlt
    generalize ss[ol] = st at hx hmem
    have okst := ok st hmem
    have hSw : Sl DStK w1 _ ss := f1.sl hS (by decide)
    obtain ⟨q, o, rfl, on, dp, dc, pl, cl, ph, ch, dim, idx, num, c0, c1, c2, c3, c4, c5, c6, c7, c8, hI, hlo, hhi⟩ := hSw.get hx
    simp only [NN_mk, Int.toNat_natCast, add_mk]
    refine ⟨by omega, LoadT_int.2 ⟨_, c0, LoadT_int.2 ⟨_, c1, LoadT_slice.2 ⟨_, _, _, c2, LoadT_slice.2 ⟨_, _, _, c3, LoadT_slice.2 ⟨_, _, _, c4, LoadT_int.2 ⟨_, c5, LoadT_int.2 ⟨_, c6, LoadT_int.2 ⟨_, c7, LoadT_int.2 ⟨_, c8, ?_⟩⟩⟩⟩⟩⟩⟩⟩⟩⟩
    refine new_intro fun n w2 e2 b2 f2 z2 => ?_
    refine store_intro (i := 0) b2 (by simp) rfl fun w3 b3 f3 z3 => ?_
    refine store_intro (i := 1) b3 (by simp) rfl fun w4 b4 f4 z4 => ?_
    refine store_intro (i := 2) b4 (by simp) rfl fun w5 b5 f5 z5 => ?_
    refine store_intro (i := 3) b5 (by simp) rfl fun w6 b6 f6 z6 => ?_
    refine store_intro (i := 4) b6 (by simp) rfl fun w7 b7 f7 z7 => ?_
    refine store_intro (i := 5) b7 (by simp) rfl fun w8 b8 f8 z8 => ?_
    refine store_intro (i := 6) b8 (by simp) rfl fun w9 b9 f9 z9 => ?_
    refine store_intro (i := 7) b9 (by simp) rfl fun wa ba fa za => ?_
    refine store_intro (i := 8) ba (by simp) rfl fun wb bb fb zb => ?_
    have bb : Blk wb n 31 [.int .i64 st.op, .int .i64 on, .slice dp st.dots.length dc, .slice pl st.low.length cl, .slice ph st.high.length ch, .int .u64 dim, .int .i64 idx, .int .i64 num, .int .i64 ((st.most : Nat) : Int)] := bb
    have i : ∀ x, x = n → x = n ∨ w1.heap.size ≤ x := fun _ h => .inl h
    have f14 : Fr (fun _ => False) w1 wb := by
      have : Fr (fun b => b = n) w1 wb := (((((((((f2.mono (S' := fun b => b = n) fun _ h => h.elim).trans f3 i).trans f4 i).trans f5 i).trans f6 i).trans f7 i).trans f8 i).trans f9 i).trans fa i).trans fb i
      exact this.mono fun b h => .inr (by have h : b = n := h; omega)
    refine load_int (i := 0) bb rfl (load_int (i := 1) bb rfl (load_slice (i := 2) bb rfl (load_slice (i := 3) bb rfl (load_slice (i := 4) bb rfl (load_int (i := 5) bb rfl (load_int (i := 6) bb rfl (load_int (i := 7) bb rfl (load_int (i := 8) bb rfl ?_))))))))
    have hsnL : runM dm M0 (ss.take (ol + 1)) = stepM dm (runM dm M0 (ss.take ol)) st := by rw [take_snoc hx, runM_snoc]
    have hsnA : runAn dm M0 (ss.take (ol + 1)) = runAn dm M0 (ss.take ol) ++ [stepAn dm (runM dm M0 (ss.take ol)) st] := by rw [take_snoc hx, runAn_snoc]
    have hsnT : totD (ss.take (ol + 1)) = totD (ss.take ol) + st.dots.length := by rw [take_snoc hx, totD_snoc]
    have htt := totD_take ss (ol + 1)
    refine F18_call (F18_spec (h1.fr0 f14) (hI.fr0 f14) (hlo.fr0 f14) (hhi.fr0 f14) okst hd1 hdm (by omega) fun wc pc cc qc dc h5 A5 H5 f5 => back_da ?_)
    generalize hst : stepAn dm (runM dm M0 (ss.take ol)) st = a at *
    refine build_intro und55 g1 g2 (by omega) (by omega) (fill59 _ _ _ _ _ _ _ _ _ _ i59 g3) fun wd fd bd zd => ?_
    have O5 : SlO DAnK wc op ol oc (runAn dm M0 (ss.take ol)) := f5.slO (O1.fr0 f14) (by decide)
    have f05 : FX w.heap.size tsR w wc := (f1.trans (.of0 f14)).trans f5
    have z05 := f05.size
    have O6 := O5.fr0 fd
    have z5 := f5.size
    have z14 := f14.size
    refine SlO.append (K := DAnK) und55 g1 g2 g3 (by decide) rfl g4 (by decide) O6 bd (ys := [a]) (Rows.one ⟨pc, cc, qc, dc, rfl, rfl, rfl, rfl, A5.fr0 fd, H5.fr0 fd⟩) rfl rfl (fun u hu => ?_) (by omega) fun p' c' we fe O7 hp7 => ?_
    · simp only [List.mem_cons, List.not_mem_nil, or_false] at hu
      rcases hu with rfl | rfl | rfl | rfl <;> rfl
    rw [addI_i64 (by omega) (by omega)]
    have T7 : Tys (fun b => bl op b) wd [38] := O6.ty
    refine ⟨⟨by trivial, by trivial, by trivial, by trivial, by trivial, ol + 1, by omega, hlt, by trivial, ?_, ?_, fun b hb => ?_, (f05.trans (.of0 fd)).new fe fun b hb => hop b hb⟩, ?_⟩
    · rw [hsnL, hsnT]; exact FX.trB (h5.fr0 fd) ⟨_, fe, T7, fun _ _ => Nat.zero_le _⟩ (by decide)
    · rw [hsnA]; exact O7
    · rcases hp7 b hb with h | h
      · exact hop b h
      · have := fd.size; omega
    · show ss.length - (((ol : Nat) : Int) + 1).toNat < ss.length - ((ol : Nat) : Int).toNat
      omega
  · rw [decide_eq_false (show ¬ ((ol : Nat) : Int) < ((ss.length : Nat) : Int) by omega), BIf_false]
    have : ol = ss.length := by omega
    subst this
    rw [List.take_length] at O1
    exact hk w1 op oc O1.sl (f1.fr0 (Nat.le_refl _))
end
end Go.Proofs.YtfokodpnoiilbaaGreat.E
