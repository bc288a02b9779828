/-
  Caches: what they are, plain and in memory; items put, got, taken out.
-/
import Derived.Test.YtmaejciimpnogaaDoorCaL
import Derived.Test.YtmaejciimpnogaaDoorLists
import Derived.Shelf.Abstract
namespace Go.Proofs.YtmaejciimpnogaaDoor.E
open Go
set_option linter.unusedSimpArgs false
set_option linter.unusedVariables false
set_option maxRecDepth 100000
set_option maxHeartbeats 8000000

/-! ## Plain -/
structure Cit where
  k : ByteArray
  sz : Nat
  tag : Int
def tot (L : List Cit) : Nat := (L.map Cit.sz).sum
@[simp] theorem tot_nil : tot [] = 0 := rfl
@[simp] theorem tot_cons (x : Cit) (L : List Cit) : tot (x :: L) = x.sz + tot L := by simp [tot]
@[simp] theorem tot_app (A B : List Cit) : tot (A ++ B) = tot A + tot B := by simp [tot]
def rem (k : ByteArray) (L : List Cit) : List Cit := L.filter fun i => decide (i.k ≠ k)
/-- The longest beginning that has room. -/
def evi : Nat → List Cit → List Cit
  | _, [] => []
  | r, x :: l => if x.sz ≤ r then x :: evi (r - x.sz) l else []
theorem ev_snoc : ∀ (M : List Cit) (r : Nat) (x : Cit), r < tot (M ++ [x]) → evi r (M ++ [x]) = evi r M
  | [], r, x, h => by
    simp at h
    show (if x.sz ≤ r then _ else []) = []
    rw [if_neg (by omega)]
  | y :: M, r, x, h => by
    show (if y.sz ≤ r then y :: evi (r - y.sz) (M ++ [x]) else []) = if y.sz ≤ r then y :: evi (r - y.sz) M else []
    by_cases h1 : y.sz ≤ r
    · rw [if_pos h1, if_pos h1, ev_snoc M _ x (by simp at h ⊢; omega)]
    · rw [if_neg h1, if_neg h1]
theorem ev_all : ∀ (M : List Cit) (r : Nat), tot M ≤ r → evi r M = M
  | [], _, _ => rfl
  | y :: M, r, h => by
    simp at h
    show (if y.sz ≤ r then y :: evi (r - y.sz) M else []) = _
    rw [if_pos (by omega), ev_all M _ (by omega)]
theorem ev_tot : ∀ (M : List Cit) (r : Nat), tot (evi r M) ≤ r
  | [], _ => Nat.zero_le _
  | y :: M, r => by
    show tot (if y.sz ≤ r then y :: evi (r - y.sz) M else []) ≤ r
    by_cases h1 : y.sz ≤ r
    · rw [if_pos h1]; have := ev_tot M (r - y.sz); simp; omega
    · rw [if_neg h1]; exact Nat.zero_le _
theorem ev_pre : ∀ (M : List Cit) (r : Nat), evi r M <+: M
  | [], _ => List.prefix_refl _
  | y :: M, r => by
    show (if y.sz ≤ r then y :: evi (r - y.sz) M else []) <+: _
    by_cases h1 : y.sz ≤ r
    · rw [if_pos h1]; exact List.prefix_cons_inj y |>.2 (ev_pre M _)
    · rw [if_neg h1]; exact List.nil_prefix

/-! ## Memory -/
abbrev Tri := Cit × Nat × Nat
def its (T : List Tri) : List Cit := T.map (·.1)
def els (T : List Tri) : List Nat := T.map (·.2.1)
def fAdd (cb : Nat) (lru : Bool) : Value := .func (.func (if lru then 21 else 22)) #[pb cb] #[]
def fAcc (cb : Nat) (lru : Bool) : Value := .func (.func (if lru then 22 else 21)) #[pb cb] #[]
def find (k : ByteArray) (T : List Tri) : Option Tri := T.find? fun t => decide (t.1.k = k)
def itV (i : Cit) : Value := .iface 53 (.agg #[.int .i64 ((i.sz : Nat) : Int), .int .i64 i.tag])
structure CM (w : World) (cb mb lb : Nat) (lru : Bool) (C : Nat) (T : List Tri) : Prop where
  b : Blk w cb 73 [.int .u64 ((C : Nat) : Int), .int .u64 ((tot (its T) : Nat) : Int), .map (some mb), pb lb, fAdd cb lru, fAcc cb lru]
  m : ∃ l, MapB w mb Value.string l ∧ (l.map (·.1)).Nodup ∧ ∀ k, getL k l = (find k T).map fun t => pb t.2.2
  q : ∃ key, LM w lb key (els T) ∧ ∀ t ∈ T, key t.2.1 = t.1.k
  d : ∀ t ∈ T, Blk w t.2.2 80 [itV t.1, pb t.2.1]
  n : (T.map (·.1.k)).Nodup
def G (cb mb lb : Nat) (T : List Tri) (b : Nat) : Prop := b = cb ∨ b = mb ∨ b ∈ lb :: els T
theorem find_none {k : ByteArray} {T : List Tri} : find k T = none ↔ ∀ t ∈ T, t.1.k ≠ k := by
  unfold find; rw [List.find?_eq_none]
  exact ⟨fun h t ht => by simpa using h t ht, fun h t ht => by simpa using h t ht⟩
theorem find_split {k : ByteArray} {T : List Tri} {t : Tri} (h : find k T = some t) (hn : (T.map (·.1.k)).Nodup) : t.1.k = k ∧ ∃ xs ys, T = xs ++ t :: ys ∧ (∀ x ∈ xs, x.1.k ≠ k) ∧ ∀ x ∈ ys, x.1.k ≠ k := by
  unfold find at h
  rw [List.find?_eq_some_iff_append] at h
  obtain ⟨h1, xs, ys, rfl, h2⟩ := h
  have h1 : t.1.k = k := by simpa using h1
  refine ⟨h1, xs, ys, rfl, fun x hx => by simpa using h2 x hx, fun x hx e => ?_⟩
  rw [List.map_append, List.map_cons] at hn
  have := (List.nodup_cons.1 (List.nodup_append.1 hn).2.1).1
  exact this (by rw [h1, ← e]; exact List.mem_map_of_mem hx)
theorem find_at {k : ByteArray} {xs ys : List Tri} {t : Tri} (hx : ∀ x ∈ xs, x.1.k ≠ k) (ht : t.1.k = k) : find k (xs ++ t :: ys) = some t := by
  unfold find
  rw [List.find?_append, List.find?_eq_none.2 (fun x h => by simpa using hx x h)]
  simp [ht]
theorem rem_none {k : ByteArray} {T : List Tri} (h : ∀ t ∈ T, t.1.k ≠ k) : rem k (its T) = its T := by
  unfold rem its
  rw [List.filter_eq_self]
  intro i hi
  obtain ⟨t, ht, rfl⟩ := List.mem_map.1 hi
  simpa using h t ht
theorem rem_at {k : ByteArray} {xs ys : List Tri} {t : Tri} (hx : ∀ x ∈ xs, x.1.k ≠ k) (hy : ∀ x ∈ ys, x.1.k ≠ k) (ht : t.1.k = k) : rem k (its (xs ++ t :: ys)) = its (xs ++ ys) := by
  have h1 := rem_none hx
  have h2 := rem_none hy
  unfold rem its at *
  rw [List.map_append, List.filter_append, List.map_cons, List.filter_cons_of_neg (by simpa using ht), h1, h2, List.map_append]
theorem getL_put_same {K : Type} [DecidableEq K] (a : K) (v : Value) : ∀ l : List (K × Value), getL a (putL a v l) = some v
  | [] => by simp [putL, getL]
  | p :: l => by
    unfold putL
    by_cases h : a = p.1
    · rw [if_pos h]; unfold getL; rw [if_pos h]
    · rw [if_neg h]; unfold getL; rw [if_neg h]; exact getL_put_same a v l
theorem getL_put_ne {K : Type} [DecidableEq K] {a b : K} (v : Value) (hab : b ≠ a) : ∀ l : List (K × Value), getL b (putL a v l) = getL b l
  | [] => by simp [putL, getL, hab]
  | p :: l => by
    unfold putL
    by_cases h : a = p.1
    · rw [if_pos h]; unfold getL; rw [← h, if_neg hab, if_neg hab]
    · rw [if_neg h]; unfold getL
      rw [getL_put_ne v hab l]
theorem put_mem {K : Type} [DecidableEq K] {a b : K} {v : Value} : ∀ {l : List (K × Value)}, b ∈ (putL a v l).map (·.1) → b = a ∨ b ∈ l.map (·.1)
  | [], h => by simp [putL] at h; exact .inl h
  | p :: l, h => by
    unfold putL at h
    by_cases e : a = p.1
    · rw [if_pos e] at h
      simp only [List.map_cons, List.mem_cons] at h ⊢
      rcases h with h | h
      · exact .inl (h.trans (by first | exact e.symm | rfl))
      · exact .inr (.inr h)
    · rw [if_neg e] at h
      simp only [List.map_cons, List.mem_cons] at h ⊢
      rcases h with h | h
      · exact .inr (.inl h)
      · rcases put_mem h with h | h
        · exact .inl h
        · exact .inr (.inr h)
theorem put_nd {K : Type} [DecidableEq K] {a : K} {v : Value} : ∀ {l : List (K × Value)}, (l.map (·.1)).Nodup → ((putL a v l).map (·.1)).Nodup
  | [], _ => by simp [putL]
  | p :: l, h => by
    unfold putL
    rw [List.map_cons] at h
    obtain ⟨h1, h2⟩ := List.nodup_cons.1 h
    by_cases e : a = p.1
    · rw [if_pos e, List.map_cons]
      exact List.nodup_cons.2 ⟨by simpa [e] using h1, h2⟩
    · rw [if_neg e, List.map_cons]
      refine List.nodup_cons.2 ⟨fun hm => ?_, put_nd h2⟩
      rcases put_mem hm with h | h
      · exact e h.symm
      · exact h1 h
theorem getL_none {K : Type} [DecidableEq K] {a : K} : ∀ {l : List (K × Value)}, a ∉ l.map (·.1) → getL a l = none
  | [], _ => rfl
  | p :: l, h => by
    rw [List.map_cons, List.mem_cons, not_or] at h
    unfold getL
    rw [if_neg h.1, getL_none h.2]
theorem del_same {K : Type} [DecidableEq K] {a : K} : ∀ {l : List (K × Value)}, (l.map (·.1)).Nodup → getL a (delL a l) = none
  | [], _ => rfl
  | p :: l, h => by
    unfold delL
    rw [List.map_cons] at h
    obtain ⟨h1, h2⟩ := List.nodup_cons.1 h
    by_cases e : a = p.1
    · rw [if_pos e, getL_none (by rw [e]; exact h1)]
    · rw [if_neg e]; unfold getL; rw [if_neg e, del_same h2]
theorem del_ne {K : Type} [DecidableEq K] {a b : K} (hab : b ≠ a) : ∀ l : List (K × Value), getL b (delL a l) = getL b l
  | [] => rfl
  | p :: l => by
    unfold delL
    by_cases e : a = p.1
    · rw [if_pos e]; conv => rhs; unfold getL
      rw [← e, if_neg hab]
    · rw [if_neg e]; unfold getL; rw [del_ne hab l]
theorem del_sub {K : Type} [DecidableEq K] (a : K) : ∀ l : List (K × Value), List.Sublist (delL a l) l
  | [] => List.Sublist.refl _
  | p :: l => by
    unfold delL
    by_cases e : a = p.1
    · rw [if_pos e]; exact List.sublist_cons_self _ _
    · rw [if_neg e]; exact (del_sub a l).cons_cons _
theorem und70 : ∃ t, Tryd.prog.underlying 70 = some (.map 9 t) ∧ ∃ i, Tryd.prog.info? t = some i ∧ i.zero = some (.pointer none) := ⟨_, rfl, _, rfl, by kernel_rfl⟩
theorem und9 : Tryd.prog.underlying 9 = some .string := by kernel_rfl
theorem keyS : KeyOk Tryd.prog 9 (fun s : ByteArray => Value.string s) := keyOk_string und9
theorem m_size (a b : Int) (w : World) : (callMethod (.iface 53 (.agg #[.int .i64 a, .int .i64 b])) "Size" [].toArray).run Tryd.prog w = .ok (.enter 60 #[.agg #[.int .i64 a, .int .i64 b]]) w := by kernel_rfl
theorem NextT_enter {P : Program} {s : Sem Next} {r : RTy} {f : Fn W r.leaves} {g : FuncId} {args : Array Value} {w w' : World} (h : s.run P w = .ok (.enter g args) w') (hk : Calls P g args w' (Back r f)) : NextT P s r f w := by
  unfold NextT; rw [h]; exact hk
theorem callB_enter {P : Program} {f : FuncId} {bd args : Array Value} {w : World} (h : ∀ args w, (callFunc f args).run P w = .ok (.enter f args) w) :
    (callV (.func (.func f) bd #[]) args).run P w = .ok (.enter f (bd ++ args)) w := by
  have e := h (bd ++ args) w
  simp [callV, Deferred.ofValue, invoke, e]
theorem ent21 : ∀ args w, (callFunc 21 args).run Tryd.prog w = .ok (.enter 21 args) w := enters_of Tryd.func21 (by kernel_rfl) rfl
theorem ent22 : ∀ args w, (callFunc 22 args).run Tryd.prog w = .ok (.enter 22 args) w := enters_of Tryd.func22 (by kernel_rfl) rfl
section
variable {w : World} {k : Value → W} {cb mb lb C : Nat} {lru : Bool} {T : List Tri} {kb : ByteArray}
theorem look_pb {b : Nat} {l : List (ByteArray × Value)} (h : MapB w b Value.string l) {o : Option Tri} (hg : getL kb l = o.map fun t => pb t.2.2) {f : Option Addr → Bool → W} (hk : f (o.map fun t => ⟨t.2.2, 0, none⟩) o.isSome w) :
    RawS Tryd.prog (Instr.lookup 70 (.map (some b)) (.string kb) true) (.tup [(.one .ptr), (.one .bool)]) f w := by
  obtain ⟨t, h1, i, h2, h3⟩ := und70
  have hr := lookup_run h1 keyS (zero_of h2 h3 w) h kb true
  rw [hg] at hr
  cases o with
  | none => exact ⟨(none, false, ()), hr, hk⟩
  | some x => exact ⟨(some ⟨x.2.2, 0, none⟩, true, ()), hr, hk⟩
theorem look_p {b : Nat} {l : List (ByteArray × Value)} (h : MapB w b Value.string l) {o : Option Tri} (hg : getL kb l = o.map fun t => pb t.2.2) {f : Option Addr → W} (hk : f (o.map fun t => ⟨t.2.2, 0, none⟩) w) :
    RawS Tryd.prog (Instr.lookup 70 (.map (some b)) (.string kb) false) (.s (.one .ptr)) f w := by
  obtain ⟨t, h1, i, h2, h3⟩ := und70
  have hr := lookup_run h1 keyS (zero_of h2 h3 w) h kb false
  rw [hg] at hr
  cases o with
  | none => exact ⟨(none, ()), hr, hk⟩
  | some x => exact ⟨(some ⟨x.2.2, 0, none⟩, ()), hr, hk⟩
theorem CM.ty (h : CM w cb mb lb lru C T) : Tys (G cb mb lb T) w [73, 83, 85] := fun b u us hb hu => by
  obtain ⟨l, hm, _⟩ := h.m
  obtain ⟨key, hq, _⟩ := h.q
  rcases hb with rfl | rfl | hb
  · rw [(hu.unique h.b).1]; decide
  · exact absurd rfl (hm.not_blk hu)
  · have := hq.ty b u us hb hu
    simp only [List.mem_cons, List.not_mem_nil, or_false] at this ⊢
    rcases this with h | h
    · exact .inr (.inl h)
    · exact .inr (.inr h)
theorem CM.lt (h : CM w cb mb lb lru C T) {b : Nat} (hb : G cb mb lb T b) : b < w.heap.size := by
  obtain ⟨l, hm, _⟩ := h.m
  obtain ⟨key, hq, _⟩ := h.q
  rcases hb with rfl | rfl | hb
  · exact h.b.lt
  · exact hm.lt
  · exact hq.lt hb
/-- What else turns leaves a cache as it is. -/
theorem CM.fr {S : Nat → Prop} {w' : World} (h : CM w cb mb lb lru C T) (f : Fr S w w') (hS : ∀ b, S b → ∃ t us, Blk w b t us ∧ t ∉ [73, 80, 83, 85]) : CM w' cb mb lb lru C T := by
  obtain ⟨l, hm, hm'⟩ := h.m
  obtain ⟨key, hq, hq'⟩ := h.q
  have nb : ∀ {b t us}, Blk w b t us → t ∈ [73, 80, 83, 85] → ¬ S b := fun hb ht hs => by
    obtain ⟨t', us', h1, h2⟩ := hS _ hs
    rw [(hb.unique h1).1] at ht; exact h2 ht
  refine ⟨h.b.fr f (nb h.b (by decide)), ⟨l, hm.fr f fun hs => ?_, hm'⟩, ⟨key, hq.fr f fun x hx hs => ?_, hq'⟩, fun t ht => (h.d t ht).fr f (nb (h.d t ht) (by decide)), h.n⟩
  · obtain ⟨t', us', h1, h2⟩ := hS _ hs
    exact hm.not_blk h1 rfl
  · obtain ⟨t', us', h1, h2⟩ := hS _ hs
    have := hq.ty x _ _ hx h1
    simp only [List.mem_cons, List.not_mem_nil, or_false] at this
    rcases this with h | h <;> exact h2 (by simp [h])
theorem CM.fr0 {w' : World} (h : CM w cb mb lb lru C T) (f : Fr (fun _ => False) w w') : CM w' cb mb lb lru C T := h.fr f fun _ h => h.elim
theorem G_sub {T' : List Tri} (h : ∀ t ∈ T', t ∈ T) {b : Nat} (hb : G cb mb lb T' b) : G cb mb lb T b := by
  rcases hb with h' | h' | h'
  · exact .inl h'
  · exact .inr (.inl h')
  · rcases List.mem_cons.1 h' with h' | h'
    · exact .inr (.inr (by simp [h']))
    · obtain ⟨t, ht, rfl⟩ := List.mem_map.1 h'
      exact .inr (.inr (List.mem_cons_of_mem _ (List.mem_map_of_mem (h t ht))))
theorem size_intro {i : Cit} {f : Int → W} (h0 : i.sz < 100000) (hk : ∀ w', Fr (fun _ => False) w w' → f ((i.sz : Nat) : Int) w') : NextT Tryd.prog (callMethod (itV i) "Size" [].toArray) (.s (.one (.int .u64))) f w := by
  refine NextT_enter (m_size _ _ w) (F60_calls ?_)
  unfold F60
  refine new_intro fun n w1 e1 b1 f1 z1 => load_int (i := 0) b1 rfl (back_int ?_)
  rw [wrap_u64 (by omega) (by omega)]
  exact hk w1 f1
/-- An item is taken out by its key. -/
theorem F65_spec (h : CM w cb mb lb lru C T) (hl : T.length < 1000) (hs : ∀ t ∈ T, t.1.sz < 100000) (ht : tot (its T) < 100000000)
    (hk : ∀ w' T', CM w' cb mb lb lru C T' → its T' = rem kb (its T) → (∀ t ∈ T', t ∈ T) → (∀ t ∈ T', t.1.k ≠ kb) → Fr (G cb mb lb T) w w' → k (.tuple #[]) w') :
    F65 k (some ⟨cb, 0, none⟩) kb w := by
  obtain ⟨l, hm, hnd, hg⟩ := h.m
  obtain ⟨key, hq, hkey⟩ := h.q
  unfold F65
  simp only [NN_mk, add_mk, Nat.zero_add]
  refine load_map (i := 2) h.b rfl (look_pb hm (hg kb) ?_)
  cases hf : find kb T with
  | none =>
    rw [show (none : Option Tri).isSome = false from rfl, BIf_false]
    have hno := find_none.1 hf
    exact hk w T h (rem_none hno).symm (fun t ht => ht) hno (Fr.refl _ _)
  | some t =>
    obtain ⟨htk, xs, ys, rfl, hx, hy⟩ := find_split hf h.n
    rw [show (some t).isSome = true from rfl, BIf_true]
    refine load_map (i := 2) h.b rfl (delete_intro (kv := fun s : ByteArray => Value.string s) (P := Tryd.prog) und70.choose_spec.1 keyS hm fun w1 hm1 f1 z1 => ?_)
    have htm : t ∈ xs ++ t :: ys := by simp
    have hcm : cb ≠ mb := fun e => hm.not_blk (e ▸ h.b) rfl
    have b1 := h.b.fr f1 hcm
    have hdm : ∀ x ∈ xs ++ t :: ys, x.2.2 ≠ mb := fun x hx e => hm.not_blk (e ▸ h.d x hx) rfl
    have hlm : ∀ x ∈ lb :: els (xs ++ t :: ys), x ≠ mb := fun x hx e => by
      obtain ⟨nx, pv, hN, _⟩ := hq
      obtain ⟨u, us, hb, _⟩ := (hN x hx).blk
      exact hm.not_blk (e ▸ hb) rfl
    have d1 : ∀ x ∈ xs ++ t :: ys, Blk w1 x.2.2 80 [itV x.1, pb x.2.1] := fun x hx => (h.d x hx).fr f1 (hdm x hx)
    have q1 := hq.fr f1 hlm
    refine drw_intro fun w2 f2 z2 => ?_
    refine load_int (i := 1) (b1.fr f2 id) rfl ?_
    show NN (some ⟨t.2.2, 0, none⟩) _ w2
    rw [NN_mk]
    refine load_any (i := 0) ((d1 t htm).fr f2 id) rfl ?_
    refine size_intro (hs t htm) fun w3 f3 => ?_
    have b3 := (b1.fr f2 id).fr f3 id
    refine ⟨by rw [b3.cell]; rfl, ?_⟩
    have e1 : tot (its (xs ++ t :: ys)) = tot (its (xs ++ ys)) + t.1.sz := by simp [its]; omega
    rw [subI_u64 (by omega) (by omega), show ((tot (its (xs ++ t :: ys)) : Nat) : Int) - ((t.1.sz : Nat) : Int) = ((tot (its (xs ++ ys)) : Nat) : Int) by omega]
    refine store_intro (i := 1) b3 (by simp) rfl fun w4 b4 f4 z4 => drw_intro fun w5 f5 z5 => ?_
    have b5 := b4.fr f5 id
    refine load_ptr (i := 3) b5 rfl ?_
    show NN (some ⟨t.2.2, 0, none⟩) _ w5
    simp only [NN_mk, add_mk, Nat.zero_add]
    have f23 := f2.trans f3 fun _ h => h.elim
    have f25 : Fr (fun b => b = cb) w1 w5 := ((f23.mono fun _ h => h.elim).trans f4 fun b h => .inl h).trans f5 fun _ h => h.elim
    have hcd : ∀ x ∈ xs ++ t :: ys, x.2.2 ≠ cb := fun x hx e => by have := (h.b.unique (e ▸ h.d x hx)).1; simp at this
    have hcl : ∀ x ∈ lb :: els (xs ++ t :: ys), x ≠ cb := fun x hx e => by have := hq.ty x _ _ hx (e ▸ h.b); simp at this
    have d5 : ∀ x ∈ xs ++ t :: ys, Blk w5 x.2.2 80 [itV x.1, pb x.2.1] := fun x hx => (d1 x hx).fr f25 (hcd x hx)
    refine load_ptr (i := 1) (d5 t htm) rfl ?_
    have q5 := q1.fr f25 hcl
    have eels : els (xs ++ t :: ys) = els xs ++ t.2.1 :: els ys := by simp [els]
    rw [eels] at q5
    refine F68_call (F68_spec q5 (by simp [els] at hl ⊢; omega) fun w6 v q6 f6 z6 => back_any ?_)
    rw [← eels] at f6
    have hnl : (els xs ++ els ys) = els (xs ++ ys) := by simp [els]
    rw [hnl] at q6
    have sub : ∀ x ∈ xs ++ ys, x ∈ xs ++ t :: ys := fun x hx => by
      rcases List.mem_append.1 hx with h | h <;> simp [h]
    have q5ty := (show LM w5 lb key (els (xs ++ t :: ys)) by rw [eels]; exact q5).ty
    have ntk : ∀ x ∈ xs ++ ys, x.1.k ≠ kb := fun x hx' => by
      rcases List.mem_append.1 hx' with h | h
      · exact hx x h
      · exact hy x h
    have f16 : Fr (G cb mb lb (xs ++ t :: ys)) w w6 := ((f1.mono (S' := G cb mb lb (xs ++ t :: ys)) fun b hb => .inl (.inr (.inl hb))).trans f25 fun b hb => .inl (.inl hb)).trans f6 fun b hb => .inl (.inr (.inr hb))
    refine hk w6 (xs ++ ys) ⟨?_, ⟨_, (hm1.fr f25 (fun e => hcm e.symm)).fr f6 ?_, ?_, fun k' => ?_⟩, ⟨key, q6, fun x hx => hkey x (sub x hx)⟩, fun x hx => ?_, ?_⟩ (rem_at hx hy htk).symm sub ntk f16
    · exact b5.fr f6 fun hm' => hcl _ hm' rfl
    · exact fun hm' => hlm _ hm' rfl
    · exact hnd.sublist ((del_sub _ _).map _)
    · by_cases e : k' = kb
      · subst e
        rw [del_same hnd, find_none.2 ntk]; rfl
      · rw [del_ne e, hg]
        congr 1
        unfold find
        rw [List.find?_append, List.find?_append, List.find?_cons_of_neg (by simpa [htk] using fun x => e x.symm)]
    · exact (d5 x (sub x hx)).fr f6 fun hm' => by have := q5ty _ _ _ hm' (d5 x (sub x hx)); simp at this
    · have := h.n
      refine this.sublist ?_
      exact (List.Sublist.append_left (List.sublist_cons_self _ _) _).map _
end
end Go.Proofs.YtmaejciimpnogaaDoor.E
