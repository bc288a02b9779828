/-
  Steps on a heap with numbered entries.
-/
import Derived.Test.YtlbeelgfpbkdbaaFh8
namespace Go.Proofs.Ytlbeelgfpbkdbaa.E
open Go
set_option linter.unusedSimpArgs false
set_option linter.unusedVariables false
set_option maxRecDepth 100000
set_option maxHeartbeats 8000000

theorem tyne {w' : World} {b t t' : Nat} {us us' : List Value} (h : Blk w' b t us) (h' : Blk w' b t' us') (hn : t ≠ t') : False := hn (h.unique h').1
/-- How many are there. -/
def cnt (Q : List (Option Int)) : Nat := (Q.filterMap id).length
/-- Which one is the least. -/
def MinAt (Q : List (Option Int)) (mi : Option Nat) : Prop := ((∀ (j : Nat) (u : Int), Q[j]? ≠ some (some u)) ∧ mi = none) ∨ ∃ i v, mi = some i ∧ Q[i]? = some (some v) ∧ ∀ (j : Nat) (u : Int), Q[j]? = some (some u) → v ≤ u
structure FM (w : World) (base hh : Nat) (Q : List (Option Int)) (mi : Option Nat) (hb : Nat) (ep : Option Addr) (ec : Nat) (es : List (Option Nat)) (D : List Nat) (pr : Nat → Int) (m : Option Nat) : Prop where
  hd : Blk w hh 51 [.pointer (some ⟨hb, 0, none⟩), .slice ep es.length ec]
  en : Own w 42 ep es.length ec (es.map pO)
  hp : HP w hb D pr m
  al : ∀ x, x ∈ D ↔ some x ∈ es
  un : uniq es
  q : Q = es.map (fun o => o.map pr)
  mi1 : ∀ x, m = some x → ∃ i, mi = some i ∧ es[i]? = some (some x)
  mi0 : m = none → mi = none
  b1 : base ≤ hb
  b0 : base ≤ hh
  b2 : ∀ b, bl ep b → base ≤ b
  b3 : ∀ x ∈ D, base ≤ x
  ln : es.length ≤ 900
def FMx (w : World) (base hh : Nat) (Q : List (Option Int)) (mi : Option Nat) : Prop := ∃ hb ep ec es D pr m, FM w base hh Q mi hb ep ec es D pr m
section
variable {w : World} {base hh : Nat} {Q : List (Option Int)} {mi : Option Nat} {hb : Nat} {ep : Option Addr} {ec : Nat} {es : List (Option Nat)} {D : List Nat} {pr : Nat → Int} {m : Option Nat}
theorem FM.get (H : FM w base hh Q mi hb ep ec es D pr m) {i : Nat} {v : Int} : Q[i]? = some (some v) ↔ ∃ x, es[i]? = some (some x) ∧ pr x = v := by
  rw [H.q, List.getElem?_map]
  cases h : es[i]? with
  | none => simp
  | some o => cases o <;> simp
theorem nodup_fm : ∀ {es : List (Option Nat)}, uniq es → (es.filterMap id).Nodup
  | [], _ => by simp
  | o :: es, h => by
    have h' : uniq es := fun i j x hi hj => by
      have := h (i + 1) (j + 1) x (by simpa using hi) (by simpa using hj); omega
    cases o with
    | none => simpa using nodup_fm h'
    | some x =>
      simp only [List.filterMap_cons, id_eq, List.nodup_cons]
      refine ⟨fun hm => ?_, nodup_fm h'⟩
      rw [List.mem_filterMap] at hm
      obtain ⟨o, ho, hox⟩ := hm
      simp only [id_eq] at hox
      subst hox
      obtain ⟨j, hj⟩ := List.mem_iff_getElem?.1 ho
      have := h 0 (j + 1) x rfl (by simpa using hj); omega
theorem FM.cnt (H : FM w base hh Q mi hb ep ec es D pr m) : D.length = cnt Q := by
  have h1 : (Q.filterMap id) = (es.filterMap id).map pr := by
    rw [H.q, List.filterMap_map]
    rw [List.map_filterMap]
    congr 1
  unfold E.cnt
  rw [h1, List.length_map]
  have hn := nodup_fm H.un
  have hm : ∀ x, x ∈ es.filterMap id ↔ x ∈ D := fun x => by rw [H.al]; simp [List.mem_filterMap]
  exact Nat.le_antisymm (len_le_of H.hp.dn fun x hx => (hm x).2 hx) (len_le_of hn fun x hx => (hm x).1 hx)
theorem FM.min (H : FM w base hh Q mi hb ep ec es D pr m) : MinAt Q mi := by
  obtain ⟨s, R, C, h, Hp⟩ := id H.hp
  rcases Hp.mn with ⟨h1, h2⟩ | ⟨x, hx, h1, h2⟩
  · refine .inl ⟨fun j u hj => ?_, H.mi0 h2⟩
    obtain ⟨x, hx, _⟩ := H.get.1 hj
    have := (H.al x).2 (List.mem_of_getElem? hx)
    rw [h1] at this; cases this
  · obtain ⟨i, hi, hie⟩ := H.mi1 x h1
    refine .inr ⟨i, pr x, hi, H.get.2 ⟨x, hie, rfl⟩, fun j u hj => ?_⟩
    obtain ⟨y, hy, rfl⟩ := H.get.1 hj
    exact h2 y ((H.al y).2 (List.mem_of_getElem? hy))
theorem FM.known (H : FM w base hh Q mi hb ep ec es D pr m) : ∀ (j y : Nat), es[j]? = some (some y) → ∃ us, Blk w y 69 us := fun j y hy => by
  obtain ⟨vs, hv, _⟩ := H.hp.cell ((H.al y).2 (List.mem_of_getElem? hy))
  exact ⟨vs, hv⟩
theorem FM.fit (H : FM w base hh Q mi hb ep ec es D pr m) {x : Nat} (hx : x ∈ D) : Fit (pr x) := by
  obtain ⟨s, R, C, h, Hp⟩ := id H.hp
  exact Hp.ft x hx
theorem FM.fr {S : Nat → Prop} {w' : World} (H : FM w base hh Q mi hb ep ec es D pr m) (f : Fr S w w') (hS : ∀ b, S b → b < base ∨ ∃ t us, Blk w b t us ∧ t ≠ 51 ∧ t ≠ 42 ∧ t ≠ 45 ∧ t ≠ 69) : FM w' base hh Q mi hb ep ec es D pr m := by
  have nS : ∀ {b t us}, Blk w b t us → base ≤ b → (t = 51 ∨ t = 42 ∨ t = 45 ∨ t = 69) → ¬ S b := fun hB hb ht hs => by
    rcases hS _ hs with h | ⟨t', us', h, a1, a2, a3, a4⟩
    · omega
    · have := (hB.unique h).1
      rcases ht with e | e | e | e
      · exact a1 (this.symm.trans e)
      · exact a2 (this.symm.trans e)
      · exact a3 (this.symm.trans e)
      · exact a4 (this.symm.trans e)
  refine ⟨H.hd.fr f (nS H.hd H.b0 (.inl rfl)), H.en.fr f fun b hb => ?_, H.hp.fr f (nS H.hp.hb H.b1 (.inr (.inr (.inl rfl)))) fun x hx => ?_, H.al, H.un, H.q, H.mi1, H.mi0, H.b1, H.b0, H.b2, H.b3, H.ln⟩
  · obtain ⟨us, hu⟩ := H.en.blk hb
    exact nS hu (H.b2 b hb) (.inr (.inl rfl))
  · obtain ⟨vs, hv, _⟩ := H.hp.cell hx
    exact nS hv (H.b3 x hx) (.inr (.inr (.inr rfl)))
theorem FM.fr0 {w' : World} (H : FM w base hh Q mi hb ep ec es D pr m) (f : Fr (fun _ => False) w w') : FM w' base hh Q mi hb ep ec es D pr m := H.fr f fun _ h => h.elim
end
/-- What is said: the entry's number, its priority, how many there are. -/
structure FD where
  e : Nat
  p : Int
  z : Nat
structure FS where
  op : Int
  n : Nat
  p : Int
inductive FStep (s : FS) (Q : List (Option Int)) (mi : Option Nat) : List (Option Int) → Option Nat → FD → Prop
  | enq {mi' : Option Nat} : s.op = 1 → MinAt (Q ++ [some s.p]) mi' → FStep s Q mi (Q ++ [some s.p]) mi' ⟨Q.length, s.p, cnt (Q ++ [some s.p])⟩
  | look {i : Nat} {v : Int} : s.op = 2 → mi = some i → Q[i]? = some (some v) → FStep s Q mi Q mi ⟨i, v, cnt Q⟩
  | deq {i : Nat} {v : Int} {mi' : Option Nat} : s.op = 3 → mi = some i → Q[i]? = some (some v) → MinAt (Q.set i none) mi' → FStep s Q mi (Q.set i none) mi' ⟨i, v, cnt (Q.set i none)⟩
  | dec {mi' : Option Nat} : s.op = 4 → MinAt (Q.set s.n (some s.p)) mi' → FStep s Q mi (Q.set s.n (some s.p)) mi' ⟨s.n, s.p, cnt (Q.set s.n (some s.p))⟩
def FFit (s : FS) (Q : List (Option Int)) : Prop := Fit s.p ∧ Q.length ≤ 800 ∧ (s.op = 1 ∨ ((s.op = 2 ∨ s.op = 3) ∧ 0 < cnt Q) ∨ (s.op = 4 ∧ ∃ v, Q[s.n]? = some (some v) ∧ s.p < v))
/-- Blocks that a step may change. -/
def SF (w : World) (base b : Nat) : Prop := base ≤ b ∧ ∃ t us, Blk w b t us ∧ (t = 51 ∨ t = 42 ∨ t = 45 ∨ t = 69)
theorem cnt_pos {Q : List (Option Int)} (h : 0 < cnt Q) : ∃ (j : Nat) (u : Int), Q[j]? = some (some u) := by
  unfold cnt at h
  obtain ⟨u, hu⟩ := List.exists_mem_of_length_pos h
  rw [List.mem_filterMap] at hu
  obtain ⟨o, ho, hou⟩ := hu
  simp only [id_eq] at hou
  subst hou
  obtain ⟨j, hj⟩ := List.mem_iff_getElem?.1 ho
  exact ⟨j, u, hj⟩
section
variable {base hh : Nat}
theorem five {K : Bool → Int → Int → Int → Bool → W} {w : World} {n : Nat} {x0 x4 : Bool} {x1 x2 x3 : Int} {vs : List Value} (hB : Blk w n 34 vs) (hl : vs.length = 5) (hk : ∀ w', Blk w' n 34 [.bool x0, .int .i64 x1, .int .i64 x2, .int .i64 x3, .bool x4] → Fr (fun x => x = n) w w' → K x0 x1 x2 x3 x4 w') :
    (Store1 ⟨n, 0, none⟩ (.bool x0) <| Store1 ⟨n, 1, none⟩ (.int .i64 x1) <| Store1 ⟨n, 2, none⟩ (.int .i64 x2) <| Store1 ⟨n, 3, none⟩ (.int .i64 x3) <| Store1 ⟨n, 4, none⟩ (.bool x4) <| LoadT .bool ⟨n, 0, none⟩ fun b => LoadT (.int .i64) ⟨n, 1, none⟩ fun c => LoadT (.int .i64) ⟨n, 2, none⟩ fun d => LoadT (.int .i64) ⟨n, 3, none⟩ fun e => LoadT .bool ⟨n, 4, none⟩ fun f => K b c d e f) w := by
  obtain ⟨v0, v1, v2, v3, v4, rfl⟩ : ∃ v0 v1 v2 v3 v4, vs = [v0, v1, v2, v3, v4] := by
    match vs, hl with
    | [a, b, c, d, e], _ => exact ⟨a, b, c, d, e, rfl⟩
  refine store_intro (i := 0) hB (by simp) rfl fun w3 b3 f3 z3 => ?_
  refine store_intro (i := 1) b3 (by simp) rfl fun w4 b4 f4 z4 => ?_
  refine store_intro (i := 2) b4 (by simp) rfl fun w5 b5 f5 z5 => ?_
  refine store_intro (i := 3) b5 (by simp) rfl fun w6 b6 f6 z6 => ?_
  refine store_intro (i := 4) b6 (by simp) rfl fun w7 b7 f7 z7 => ?_
  refine load_bool (i := 0) b7 rfl (load_int (i := 1) b7 rfl (load_int (i := 2) b7 rfl (load_int (i := 3) b7 rfl (load_bool (i := 4) b7 rfl ?_))))
  exact hk w7 b7 ((((f3.trans f4 fun x e => .inl e).trans f5 fun x e => .inl e).trans f6 fun x e => .inl e).trans f7 fun x e => .inl e)
/-- step. -/
theorem F14_spec {k : Value → W} {w : World} {Q : List (Option Int)} {mi : Option Nat} {s : FS} {sp : Option Addr} {sl sc : Nat} (H : FMx w base hh Q mi) (hf : FFit s Q) (hbase : base ≤ w.heap.size)
    (hk : ∀ Q' mi' sd w', FStep s Q mi Q' mi' sd → FMx w' base hh Q' mi' → Fr (SF w base) w w' → k (.agg #[.bool true, .int .i64 (sd.e : Nat), .int .i64 sd.p, .int .i64 0, .bool false]) w') : F14 k (some ⟨hh, 0, none⟩) s.op (s.n : Nat) s.p sp sl sc w := by
  obtain ⟨hb, ep, ec, es, D, pr, m, H⟩ := H
  obtain ⟨hfp, hQl, hop⟩ := hf
  have hlen : Q.length = es.length := by rw [H.q, List.length_map]
  have hD : D.length ≤ es.length := by
    have hn := nodup_fm H.un
    refine Nat.le_trans (len_le_of H.hp.dn fun x hx => (by rw [List.mem_filterMap]; exact ⟨some x, (H.al x).1 hx, rfl⟩ : x ∈ es.filterMap id)) (List.length_filterMap_le _ _)
  unfold F14
  refine new_intro fun n6 w1 e1 b1 f1 z1 => ?_
  refine new_intro fun n7 w2 e2 b2 f2 z2 => ?_
  have b12 := b1.fr f2 id
  have f02 := f1.trans f2 fun _ h => h.elim
  have H2 := H.fr0 f02
  refine load_int (i := 0) b12 rfl ?_
  have h6 : n6 < w2.heap.size := b12.lt
  -- frames of what the heap changes
  have frH : ∀ {w' : World} {S : Nat → Prop}, Fr S w2 w' → (∀ b, S b → b = hb ∨ b ∈ D ∨ bl ep b ∨ b = hh ∨ w.heap.size ≤ b) → Fr (SF w base) w w' := fun {w' S} f hS => by
    refine (f02.mono fun _ h => h.elim).trans f fun b hb' => ?_
    rcases hS b hb' with e | e | e | e | e
    · rw [e]; exact .inl ⟨H.b1, 45, _, H.hp.hb, .inr (.inr (.inl rfl))⟩
    · obtain ⟨vs, hv, _⟩ := H.hp.cell e
      exact .inl ⟨H.b3 b e, 69, vs, hv, .inr (.inr (.inr rfl))⟩
    · obtain ⟨us, hu⟩ := H.en.blk e
      exact .inl ⟨H.b2 b e, 42, us, hu, .inr (.inl rfl)⟩
    · rw [e]; exact .inl ⟨H.b0, 51, _, H.hd, .inl rfl⟩
    · exact .inr e
  obtain ⟨ii, g1, g2, g3, g4⟩ := inf42
  by_cases ho1 : s.op = 1
  · rw [show (s.op == 1) = true by simpa using ho1]
    simp only [BIf_true]
    refine drw_intro fun w3 f3 z3 => ?_
    have H3 := H2.fr0 f3
    have b13 := b12.fr f3 id
    try simp only [NN_mk]
    refine load_ptr (i := 0) H3.hd rfl (load_int (i := 2) b13 rfl (cvIF ?_))
    refine ⟨by rw [H3.hd.cell]; rfl, ?_⟩
    refine F17_call (F17_spec (p := s.p) H3.hp hfp (by omega) fun b m' w4 eb HP4 f4 => back_ptr ?_)
    have hDb : ∀ x ∈ D, ∃ us, Blk w3 x 69 us := fun x hx => by obtain ⟨vs, hv, _⟩ := H3.hp.cell hx; exact ⟨vs, hv⟩
    have nS : ∀ {b' t us}, Blk w3 b' t us → t ≠ 45 → t ≠ 69 → ¬ (b' = hb ∨ b' ∈ D) := fun hB h1 h2 hs => by
      rcases hs with e | e
      · rw [e] at hB; exact tyne hB H3.hp.hb h1
      · obtain ⟨us, hu⟩ := hDb _ e; exact tyne hB hu h2
    have b14 := b13.fr f4 (nS b13 (by decide) (by decide))
    have hd4 := H3.hd.fr f4 (nS H3.hd (by decide) (by decide))
    have en4 := H3.en.fr f4 fun b' hb' => by obtain ⟨us, hu⟩ := H3.en.blk hb'; exact nS hu (by decide) (by decide)
    have b74 := (b2.fr f3 id).fr f4 (nS (b2.fr f3 id) (by decide) (by decide))
    refine ⟨by rw [b14.cell]; rfl, ?_⟩
    refine load_slice (i := 1) hd4 rfl ?_
    refine append1 (P := Try.prog) und49 g1 g2 g3 rfl (by omega) en4 rfl rfl (by omega) fun p5 c5 w5 f5 o5 hp5 hs5 => ?_
    try simp only [NN_mk]
    have ne5 : ∀ {b' t us}, Blk w4 b' t us → t ≠ 42 → ¬ bl ep b' := fun hB h1 hs => by obtain ⟨us, hu⟩ := en4.blk hs; exact tyne hB hu h1
    have hd5 := hd4.fr f5 (ne5 hd4 (by decide))
    have HP5 := HP4.fr f5 (ne5 HP4.hb (by decide)) fun x hx => by obtain ⟨vs, hv, _⟩ := HP4.cell hx; exact ne5 hv (by decide)
    have b75 := b74.fr f5 (ne5 b74 (by decide))
    refine store_intro (i := 1) hd5 (by simp) rfl fun w6 b6 f6 z6 => ?_
    have n6' : ∀ {b' t us}, Blk w5 b' t us → t ≠ 51 → ¬ b' = hh := fun hB h1 e => by rw [e] at hB; exact tyne hB hd5 h1
    have HP6 := HP5.fr f6 (n6' HP5.hb (by decide)) fun x hx => by obtain ⟨vs, hv, _⟩ := HP5.cell hx; exact n6' hv (by decide)
    have b76 := b75.fr f6 (n6' b75 (by decide))
    have o6 : Own w6 42 p5 (es ++ [some b]).length c5 ((es ++ [some b]).map pO) := by
      rw [List.map_append, List.length_append]
      exact o5.fr f6 fun b' hb' => by obtain ⟨us, hu⟩ := o5.blk hb'; exact n6' hu (by decide)
    have hbD : b ∉ D := fun hm => by obtain ⟨us, hu⟩ := hDb b hm; have := hu.lt; omega
    have hbe : some b ∉ es := fun hm => hbD ((H.al b).2 hm)
    have hle : (es ++ [some b]).length = es.length + 1 := by simp
    have hd6 : Blk w6 hh 51 [.pointer (some ⟨hb, 0, none⟩), .slice p5 (es ++ [some b]).length c5] := by rw [hle]; exact b6
    have hw3 : w2.heap.size ≤ w3.heap.size := f3.size
    have hw2 := f02.size
    have un6 : uniq (es ++ [some b]) := fun i j x hi hj => by
      rcases Nat.lt_trichotomy i es.length with h1 | h1 | h1 <;> rcases Nat.lt_trichotomy j es.length with h2 | h2 | h2
      · rw [List.getElem?_append_left h1] at hi; rw [List.getElem?_append_left h2] at hj; exact H.un i j x hi hj
      · subst h2; simp at hj; subst hj; rw [List.getElem?_append_left h1] at hi; exact absurd (List.mem_of_getElem? hi) hbe
      · rw [List.getElem?_eq_none (by simp; omega)] at hj; cases hj
      · subst h1; simp at hi; subst hi; rw [List.getElem?_append_left h2] at hj; exact absurd (List.mem_of_getElem? hj) hbe
      · omega
      · rw [List.getElem?_eq_none (by simp; omega)] at hj; cases hj
      · rw [List.getElem?_eq_none (by simp; omega)] at hi; cases hi
      · rw [List.getElem?_eq_none (by simp; omega)] at hi; cases hi
      · rw [List.getElem?_eq_none (by simp; omega)] at hi; cases hi
    have al6 : ∀ x, x ∈ b :: D ↔ some x ∈ es ++ [some b] := fun x => by
      simp only [List.mem_cons, List.mem_append, List.not_mem_nil, or_false, Option.some.injEq]
      rw [H.al x]; exact Or.comm
    have q6 : Q ++ [some s.p] = (es ++ [some b]).map fun o => o.map (up pr b s.p) := by
      rw [List.map_append, H.q]
      congr 1
      · refine List.map_congr_left fun o ho => ?_
        cases o with
        | none => rfl
        | some x =>
          have : x ≠ b := fun e => hbe (e ▸ ho)
          simp [up_ne _ _ this]
      · simp
    obtain ⟨mi', hmi⟩ : ∃ mi' : Option Nat, (∀ x, m' = some x → ∃ i, mi' = some i ∧ (es ++ [some b])[i]? = some (some x)) ∧ (m' = none → mi' = none) := by
      cases hm' : m' with
      | none => exact ⟨none, (fun x h => by cases h), fun _ => rfl⟩
      | some x =>
        obtain ⟨z, hz, hz1, _⟩ := HP6.min (by simp)
        rw [hm'] at hz1; cases hz1
        obtain ⟨i, hi⟩ := List.mem_iff_getElem?.1 ((al6 x).1 hz)
        exact ⟨some i, (fun y hy => by cases hy; exact ⟨i, rfl, hi⟩), (fun h => by cases h)⟩
    have FM6 : FM w6 base hh (Q ++ [some s.p]) mi' hb p5 c5 (es ++ [some b]) (b :: D) (up pr b s.p) m' := ⟨hd6, o6, HP6, al6, un6, q6, hmi.1, hmi.2, H.b1, H.b0, fun b' hb' => (hp5 b' hb').elim (H.b2 b') fun h => by have := f4.size; omega, fun x hx => by
      rcases List.mem_cons.1 hx with e | hx
      · rw [e]; omega
      · exact H.b3 x hx, by rw [hle]; omega⟩
    have hib : (es ++ [some b])[es.length]? = some (some b) := by simp
    obtain ⟨vs, hv, hv6⟩ := HP6.cell (x := b) (by simp)
    rw [up_same] at hv6
    refine F18_call (F18_spec hd6 o6 FM6.known un6 hib hv hv6 hfp (by rw [hle]; omega) fun w7 f7 => back_fd ?_)
    refine five (b76.fr f7 id) rfl fun w8 b8 f8 => ?_
    have b77 := b76.fr f7 id
    have FM8 := (FM6.fr0 f7).fr f8 fun b' e => .inr ⟨34, _, (show b' = n7 from e) ▸ b77, by decide, by decide, by decide, by decide⟩
    have hst := FStep.enq (s := s) (Q := Q) (mi := mi) (mi' := mi') ho1 FM6.min
    have hn7 : w.heap.size ≤ n7 := by have := f1.size; omega
    have := hk _ _ _ w8 hst ⟨_, _, _, _, _, _, _, FM8⟩ (frH (S := fun b' => b' = hb ∨ b' ∈ D ∨ bl ep b' ∨ b' = hh ∨ b' = n7) (((((((f3.mono fun _ h => h.elim).trans f4 fun b' h => .inl (h.imp id .inl)).trans f5 fun b' h => .inl (.inr (.inr (.inl h)))).trans f6 fun b' h => .inl (.inr (.inr (.inr (.inl h))))).trans f7 fun _ h => h.elim)).trans f8 fun b' e => .inl (.inr (.inr (.inr (.inr e))))) fun b' h => by
      rcases h with h | h | h | h | h
      · exact .inl h
      · exact .inr (.inl h)
      · exact .inr (.inr (.inl h))
      · exact .inr (.inr (.inr (.inl h)))
      · exact .inr (.inr (.inr (.inr (by rw [h]; exact hn7)))))
    rw [hlen] at this
    exact this
  have hn7 : w.heap.size ≤ n7 := by have := f1.size; omega
  have hmin := H.min
  rw [show (s.op == 1) = false by simpa using ho1]
  simp only [BIf_false]
  by_cases ho4 : s.op = 4
  · rw [show (s.op == 2) = false by rw [ho4]; rfl, show (s.op == 3) = false by rw [ho4]; rfl]
    simp only [BIf_false]
    rw [show (s.op == 4) = true by rw [ho4]; rfl]
    simp only [BIf_true]
    obtain ⟨v, hv, hvlt⟩ : ∃ v, Q[s.n]? = some (some v) ∧ s.p < v := by
      rcases hop with h | ⟨h, _⟩ | ⟨_, h⟩
      · omega
      · omega
      · exact h
    obtain ⟨x, hx, hpx⟩ := H.get.1 hv
    have hxD : x ∈ D := (H.al x).2 (List.mem_of_getElem? hx)
    have hnl : s.n < es.length := (List.getElem?_eq_some_iff.1 hx).1
    unfold F14_J1
    simp only [BIf_true]
    refine drw_intro fun w3 f3 z3 => ?_
    have H3 := H2.fr0 f3
    have b13 := b12.fr f3 id
    refine load_int (i := 1) b13 rfl ?_
    rw [decide_eq_false (show ¬ ((s.n : Nat) : Int) < 0 by omega)]
    simp only [BIf_false]
    refine load_int (i := 1) b13 rfl ?_
    try simp only [NN_mk]
    refine load_slice (i := 1) H3.hd rfl ?_
    rw [decide_eq_false (show ¬ ((s.n : Nat) : Int) ≥ ((es.length : Nat) : Int) by omega)]
    simp only [BIf_false]
    try simp only [NN_mk]
    refine load_slice (i := 1) H3.hd rfl ?_
    refine load_int (i := 1) b13 rfl ?_
    obtain ⟨eq, _, rfl, _, _, _⟩ := H3.en.get (by omega)
    have hec : ∀ {w'}, Own w' 42 (some ⟨eq, 0, none⟩) es.length ec (es.map pO) → w'.cell? ((⟨eq, 0, none⟩ : Addr).add s.n) = some (.pointer (some ⟨x, 0, none⟩)) := fun hO => by
      rw [add_mk, Nat.zero_add, hO.cell hnl, List.getElem?_map, hx]; rfl
    simp only [NN_mk, Int.toNat_natCast]
    refine ⟨by omega, LoadT_ptr.2 ⟨_, hec H3.en, ?_⟩⟩
    simp only [Option.isNone_some, BIf_false]
    refine load_int (i := 0) b13 rfl ?_
    rw [show (s.op == 4) = true by rw [ho4]; rfl]
    simp only [BIf_true]
    refine drw_intro fun w4 f4 z4 => ?_
    have H4 := H3.fr0 f4
    have b14 := b13.fr f4 id
    try simp only [NN_mk]
    refine load_ptr (i := 0) H4.hd rfl (load_slice (i := 1) H4.hd rfl (load_int (i := 1) b14 rfl ?_))
    simp only [NN_mk, Int.toNat_natCast]
    refine ⟨by omega, LoadT_ptr.2 ⟨_, hec H4.en, load_int (i := 2) b14 rfl (cvIF ?_)⟩⟩
    refine ⟨hec H4.en, by show w4.cell? ⟨n6, 1, none⟩ = _; rw [b14.cell]; rfl, by show w4.cell? ⟨hh, 1, none⟩ = _; rw [H4.hd.cell]; rfl, by rw [H4.hd.cell]; rfl, ?_⟩
    refine F22_call (F22_spec H4.hp hxD (by rw [hpx]; exact hvlt) hfp (by omega) fun m' w5 HP5 f5 => back_pe ?_)
    have nS : ∀ {b' t us}, Blk w4 b' t us → t ≠ 45 → t ≠ 69 → ¬ (b' = hb ∨ b' ∈ D) := fun hB h1 h2 hs => by
      rcases hs with e | e
      · rw [e] at hB; exact tyne hB H4.hp.hb h1
      · obtain ⟨vs, hu, _⟩ := H4.hp.cell e; exact tyne hB hu h2
    have b15 := b14.fr f5 (nS b14 (by decide) (by decide))
    have hd5 := H4.hd.fr f5 (nS H4.hd (by decide) (by decide))
    have en5 := H4.en.fr f5 fun b' hb' => by obtain ⟨us, hu⟩ := H4.en.blk hb'; exact nS hu (by decide) (by decide)
    have b74 := ((b2.fr f3 id).fr f4 id).fr f5 (nS ((b2.fr f3 id).fr f4 id) (by decide) (by decide))
    refine ⟨by show w5.cell? ⟨n6, 2, none⟩ = _; rw [b15.cell]; rfl, by show w5.cell? ⟨n6, 1, none⟩ = _; rw [b15.cell]; rfl, by show w5.cell? ⟨hh, 1, none⟩ = _; rw [hd5.cell]; rfl, ?_⟩
    have q5 : Q.set s.n (some s.p) = es.map fun o => o.map (up pr x s.p) := by
      refine List.ext_getElem? fun j => ?_
      rw [List.getElem?_map]
      by_cases hj : j = s.n
      · subst hj
        rw [List.getElem?_set_self (by omega), hx]; simp
      · rw [List.getElem?_set_ne (fun h => hj h.symm), H.q, List.getElem?_map]
        cases ho : es[j]? with
        | none => rfl
        | some o =>
          cases o with
          | none => rfl
          | some y =>
            have hyx : y ≠ x := fun e => by subst e; exact hj (H.un j s.n y ho hx)
            simp [up_ne _ _ hyx]
    obtain ⟨mi', hmi⟩ : ∃ mi' : Option Nat, ∀ x, some m' = some x → ∃ i, mi' = some i ∧ es[i]? = some (some x) := by
      obtain ⟨z, hz, hz1, _⟩ := HP5.min (fun e => by rw [e] at hxD; cases hxD)
      cases hz1
      obtain ⟨i, hi⟩ := List.mem_iff_getElem?.1 ((H.al _).1 hz)
      exact ⟨some i, fun y hy => by cases hy; exact ⟨i, rfl, hi⟩⟩
    have FM5 : FM w5 base hh (Q.set s.n (some s.p)) mi' hb (some ⟨eq, 0, none⟩) ec es D (up pr x s.p) (some m') := ⟨hd5, en5, HP5, H.al, H.un, q5, hmi, (fun h => by cases h), H.b1, H.b0, H.b2, H.b3, H.ln⟩
    obtain ⟨vs, hvs, hv6⟩ := HP5.cell hxD
    rw [up_same] at hv6
    refine F18_call (F18_spec hd5 en5 FM5.known H.un hx hvs hv6 hfp (by omega) fun w6 f6 => back_fd ?_)
    have b16 := b15.fr f6 id
    have hd6 := hd5.fr f6 id
    refine ⟨by show w6.cell? ⟨n6, 2, none⟩ = _; rw [b16.cell]; rfl, hec (en5.fr f6 fun _ _ h => h), by show w6.cell? ⟨n6, 1, none⟩ = _; rw [b16.cell]; rfl, by show w6.cell? ⟨hh, 1, none⟩ = _; rw [hd6.cell]; rfl, by rw [hd6.cell]; rfl, ?_⟩
    have b76 := b74.fr f6 id
    refine five b76 rfl fun w7 b7 f7 => ?_
    have FM7 := (FM5.fr0 f6).fr f7 fun b' e => .inr ⟨34, _, (show b' = n7 from e) ▸ b76, by decide, by decide, by decide, by decide⟩
    have hst := FStep.dec (s := s) (Q := Q) (mi := mi) (mi' := mi') ho4 FM5.min
    exact hk _ _ _ w7 hst ⟨_, _, _, _, _, _, _, FM7⟩ (frH (S := fun b' => b' = hb ∨ b' ∈ D ∨ b' = n7) (((((f3.mono fun _ h => h.elim).trans f4 fun _ h => h.elim).trans f5 fun b' h => .inl (h.imp id .inl)).trans f6 fun _ h => h.elim).trans f7 fun b' e => .inl (.inr (.inr e))) fun b' h => by
      rcases h with h | h | h
      · exact .inl h
      · exact .inr (.inl h)
      · exact .inr (.inr (.inr (.inr (by rw [h]; exact hn7)))))
  -- the least one
  have hc0 : 0 < cnt Q := by
    rcases hop with h | ⟨_, h⟩ | ⟨h, _⟩
    · exact absurd h ho1
    · exact h
    · exact absurd h ho4
  have hD0 : D ≠ [] := fun e => by have := H.cnt; rw [e] at this; simp at this; omega
  obtain ⟨x, hxD, hmx, hxm⟩ := H.hp.min hD0
  obtain ⟨i, hmi, hix⟩ := H.mi1 x hmx
  have hil : i < es.length := (List.getElem?_eq_some_iff.1 hix).1
  have hQi : Q[i]? = some (some (pr x)) := H.get.2 ⟨x, hix, rfl⟩
  have hfx := H.fit hxD
  by_cases ho2 : s.op = 2
  · rw [show (s.op == 2) = true by rw [ho2]; rfl]
    simp only [BIf_true]
    try simp only [NN_mk]
    refine load_ptr (i := 0) H2.hd rfl ?_
    refine F19_call (F19_spec H2.hp hD0 (back_pe ?_))
    rw [hmx]
    obtain ⟨vs, hvs, hv6⟩ := H2.hp.cell hxD
    refine F18_call (F18_spec H2.hd H2.en H2.known H2.un hix hvs hv6 hfx (by omega) fun w3 f3 => back_fd ?_)
    have b73 := b2.fr f3 id
    refine five b73 rfl fun w4 b4 f4 => ?_
    have FM4 := (H2.fr0 f3).fr f4 fun b' e => .inr ⟨34, _, (show b' = n7 from e) ▸ b73, by decide, by decide, by decide, by decide⟩
    exact hk _ _ _ w4 (FStep.look ho2 hmi hQi) ⟨_, _, _, _, _, _, _, FM4⟩ (frH (S := fun b' => b' = n7) ((f3.mono fun _ h => h.elim).trans f4 fun b' e => .inl e) fun b' h => .inr (.inr (.inr (.inr (by rw [h]; exact hn7)))))
  have ho3 : s.op = 3 := by
    rcases hop with h | ⟨h, _⟩ | ⟨h, _⟩
    · exact absurd h ho1
    · exact h.resolve_left ho2
    · exact absurd h ho4
  rw [show (s.op == 2) = false by rw [ho3]; rfl, show (s.op == 3) = true by rw [ho3]; rfl]
  simp only [BIf_false, BIf_true]
  try simp only [NN_mk]
  refine load_ptr (i := 0) H2.hd rfl ?_
  have HPx : HP w2 hb D pr (some x) := by rw [← hmx]; exact H2.hp
  refine F20_call (F20_spec HPx (by omega) fun m' w3 HP3 ⟨vs, hvs, hv6⟩ f3 => back_pe ?_)
  have hDe : ∀ y, y ∈ D.erase x ↔ y ≠ x ∧ y ∈ D := fun y => H.hp.dn.mem_erase_iff
  have nS : ∀ {b' t us}, Blk w2 b' t us → t ≠ 45 → t ≠ 69 → ¬ (b' = hb ∨ b' ∈ D) := fun hB h1 h2 hs => by
    rcases hs with e | e
    · rw [e] at hB; exact tyne hB H2.hp.hb h1
    · obtain ⟨vs, hu, _⟩ := H2.hp.cell e; exact tyne hB hu h2
  have hd3 := H2.hd.fr f3 (nS H2.hd (by decide) (by decide))
  have en3 := H2.en.fr f3 fun b' hb' => by obtain ⟨us, hu⟩ := H2.en.blk hb'; exact nS hu (by decide) (by decide)
  have b73 := b2.fr f3 (nS b2 (by decide) (by decide))
  have kn3 : ∀ (j y : Nat), es[j]? = some (some y) → ∃ us, Blk w3 y 69 us := fun j y hy => by
    by_cases e : y = x
    · rw [e]; exact ⟨vs, hvs⟩
    · obtain ⟨us, hu, _⟩ := HP3.cell ((hDe y).2 ⟨e, (H.al y).2 (List.mem_of_getElem? hy)⟩)
      exact ⟨us, hu⟩
  refine F18_call (F18_spec hd3 en3 kn3 H.un hix hvs hv6 hfx (by omega) fun w4 f4 => back_fd ?_)
  refine new_intro fun n52 w5 e5 b5 f5 z5 => ?_
  refine store_intro (i := 0) b5 (by simp) rfl fun w6 b6 f6 z6 => ?_
  refine store_intro (i := 1) b6 (by simp) rfl fun w7 b7 f7 z7 => ?_
  refine store_intro (i := 2) b7 (by simp) rfl fun w8 b8 f8 z8 => ?_
  refine store_intro (i := 3) b8 (by simp) rfl fun w9 b9 f9 z9 => ?_
  refine store_intro (i := 4) b9 (by simp) rfl fun wa ba fa za => ?_
  have f5a : Fr (fun x => x = n52) w5 wa := (((f6.trans f7 fun x e => .inl e).trans f8 fun x e => .inl e).trans f9 fun x e => .inl e).trans fa fun x e => .inl e
  have f3a : Fr (fun _ => False) w3 wa := (f4.trans f5 fun _ h => h.elim).trans f5a fun b' e => .inr (by have e : b' = n52 := e; have := f4.size; omega)
  refine load_int (i := 1) ba rfl ?_
  refine F21_call (F21_spec (hd3.fr f3a id) (en3.fr f3a fun _ _ h => h) hil fun wb ob fb => back0 ?_)
  have ena := en3.fr f3a fun _ _ h => h
  have nE : ∀ {b' t us}, Blk wa b' t us → t ≠ 42 → ¬ bl ep b' := fun hB h1 hs => by obtain ⟨us, hu⟩ := ena.blk hs; exact tyne hB hu h1
  have bb := ba.fr fb (nE ba (by decide))
  have b7b := (b73.fr f3a id).fr fb (nE (b73.fr f3a id) (by decide))
  have hdb := (hd3.fr f3a id).fr fb (nE (hd3.fr f3a id) (by decide))
  have HPa := HP3.fr0 f3a
  have HPb := HPa.fr fb (nE HPa.hb (by decide)) fun y hy => by obtain ⟨us, hu, _⟩ := HPa.cell hy; exact nE hu (by decide)
  have hsl : (es.set i none).length = es.length := List.length_set
  have q3 : Q.set i none = (es.set i none).map fun o => o.map pr := by rw [List.map_set, H.q]; rfl
  have un3 : uniq (es.set i none) := fun a b y ha hb' => by
    by_cases e1 : a = i
    · subst e1; rw [List.getElem?_set_self hil] at ha; cases ha
    · by_cases e2 : b = i
      · subst e2; rw [List.getElem?_set_self hil] at hb'; cases hb'
      · rw [List.getElem?_set_ne (fun h => e1 h.symm)] at ha
        rw [List.getElem?_set_ne (fun h => e2 h.symm)] at hb'
        exact H.un a b y ha hb'
  have al3 : ∀ y, y ∈ D.erase x ↔ some y ∈ es.set i none := fun y => by
    rw [hDe, in_set, H.al, in_get]
    constructor
    · rintro ⟨h1, j, hj⟩
      exact .inr ⟨j, (fun e => by subst e; rw [hix] at hj; cases hj; exact h1 rfl), hj⟩
    · rintro (⟨_, h⟩ | ⟨j, h1, hj⟩)
      · cases h
      · exact ⟨fun e => by subst e; exact h1 (H.un j i y hj hix), j, hj⟩
  obtain ⟨mi', hmi'⟩ : ∃ mi' : Option Nat, (∀ x, m' = some x → ∃ i', mi' = some i' ∧ (es.set i none)[i']? = some (some x)) ∧ (m' = none → mi' = none) := by
    cases hm' : m' with
    | none => exact ⟨none, (fun x h => by cases h), fun _ => rfl⟩
    | some z =>
      have hne : D.erase x ≠ [] := fun e => by
        obtain ⟨s', R', C', h', Hp⟩ := HPb
        rcases Hp.mn with ⟨_, h2⟩ | ⟨z', hz', _, _⟩
        · rw [hm'] at h2; cases h2
        · have := ((Hp.fo.Rm z').1 hz').1; rw [e] at this; cases this
      obtain ⟨z', hz, hz1, _⟩ := HPb.min hne
      rw [hm'] at hz1; cases hz1
      obtain ⟨i', hi'⟩ := List.mem_iff_getElem?.1 ((al3 _).1 hz)
      exact ⟨some i', (fun y hy => by cases hy; exact ⟨i', rfl, hi'⟩), (fun h => by cases h)⟩
  have FMb : FM wb base hh (Q.set i none) mi' hb ep ec (es.set i none) (D.erase x) pr m' := ⟨by rw [hsl]; exact hdb, by rw [hsl]; exact ob, HPb, al3, un3, q3, hmi'.1, hmi'.2, H.b1, H.b0, H.b2, fun y hy => H.b3 y ((hDe y).1 hy).2, by rw [hsl]; exact H.ln⟩
  refine load_bool (i := 0) bb rfl (load_int (i := 1) bb rfl (load_int (i := 2) bb rfl (load_int (i := 3) bb rfl (load_bool (i := 4) bb rfl ?_))))
  refine five b7b rfl fun wc bc fc => ?_
  have FMc := FMb.fr fc fun b' e => .inr ⟨34, _, (show b' = n7 from e) ▸ b7b, by decide, by decide, by decide, by decide⟩
  exact hk _ _ _ wc (FStep.deq ho3 hmi hQi FMb.min) ⟨_, _, _, _, _, _, _, FMc⟩ (frH (S := fun b' => b' = hb ∨ b' ∈ D ∨ bl ep b' ∨ b' = n7) ((((f3.mono fun b' h => .inl (h.imp id .inl)).trans f3a fun _ h => h.elim).trans fb fun b' h => .inl (.inr (.inr (.inl h)))).trans fc fun b' e => .inl (.inr (.inr (.inr e)))) fun b' h => by
    rcases h with h | h | h | h
    · exact .inl h
    · exact .inr (.inl h)
    · exact .inr (.inr (.inl h))
    · exact .inr (.inr (.inr (.inr (by rw [h]; exact hn7)))))
end
end Go.Proofs.Ytlbeelgfpbkdbaa.E
