/-
  A y-fast trie's buckets: sorted lists of entries, searched, put into.
-/
import Derived.Test.YtaacaokocamlcaaDoorXQ
import Derived.Test.YtaacaokocamlcaaDoorFnsE
import Derived.Test.YtaacaokocamlcaaDoorFnsD
import Derived.Shelf.Abstract
namespace Go.Proofs.YtaacaokocamlcaaDoor.E
open Go
set_option linter.unusedSimpArgs false
set_option linter.unusedVariables false
set_option maxRecDepth 100000
set_option maxHeartbeats 8000000

/-- Where a key stands among entries. -/
def AtK (es : List Itm) (x r : Nat) : Prop := r ≤ es.length ∧ (∀ i (h : i < es.length), i < r → es[i].1 < x) ∧ ∀ i (h : i < es.length), r ≤ i → x ≤ es[i].1
def Asc (es : List Itm) : Prop := es.Pairwise fun a b => a.1 < b.1
theorem Asc.lt {es : List Itm} (h : Asc es) {i j : Nat} (hi : i < es.length) (hj : j < es.length) (hij : i < j) : es[i].1 < es[j].1 := List.pairwise_iff_getElem.1 h _ _ _ _ hij
structure Bk (es : List Itm) (f : Nat → Option Int) : Prop where
  asc : Asc es
  mem : ∀ q v, (q, v) ∈ es ↔ f q = some v
def bput (es : List Itm) (r : Nat) (x : Itm) : List Itm := if h : r < es.length then (if es[r].1 = x.1 then es.set r x else es.take r ++ x :: es.drop r) else es ++ [x]
theorem Bk.look {es : List Itm} {f : Nat → Option Int} {x r : Nat} (h : Bk es f) (hr : AtK es x r) : f x = if h : r < es.length then (if es[r].1 = x then some es[r].2 else none) else none := by
  have key : ∀ {v}, f x = some v → ∃ h : r < es.length, es[r] = (x, v) := fun {v} hv => by
    obtain ⟨i, hi, e⟩ := List.getElem_of_mem ((h.mem x v).2 hv)
    have hri : r = i := by
      rcases Nat.lt_trichotomy i r with g | g | g
      · have := hr.2.1 i hi g; rw [e] at this; simp at this
      · exact g.symm
      · have h1 := hr.2.2 r (by omega) (Nat.le_refl _)
        have h2 := h.asc.lt (by omega : r < es.length) hi g
        rw [e] at h2; simp only at h2; omega
    subst hri
    exact ⟨hi, e⟩
  cases hf : f x with
  | some v =>
    obtain ⟨h1, h2⟩ := key hf
    rw [dif_pos h1, h2, if_pos rfl]
  | none =>
    by_cases h1 : r < es.length
    · rw [dif_pos h1]
      split
      · rename_i h2
        have : (x, es[r].2) ∈ es := by
          have e : es[r] = (x, es[r].2) := by rw [← h2]
          rw [← e]; exact List.getElem_mem _
        rw [(h.mem _ _).1 this] at hf; cases hf
      · rfl
    · rw [dif_neg h1]
theorem Bk.put {es : List Itm} {f : Nat → Option Int} {x : Itm} {r : Nat} (h : Bk es f) (hr : AtK es x.1 r) : Bk (bput es r x) (fun q => if q = x.1 then some x.2 else f q) := by
  have hl := h.look hr
  unfold bput
  by_cases h1 : r < es.length
  · rw [dif_pos h1] at hl ⊢
    by_cases h2 : es[r].1 = x.1
    · rw [if_pos h2] at hl ⊢
      refine ⟨?_, fun q v => ?_⟩
      · refine List.pairwise_iff_getElem.2 fun i j hi hj hij => ?_
        simp only [List.length_set] at hi hj
        rw [List.getElem_set, List.getElem_set]
        have := h.asc.lt hi hj hij
        split
        · rename_i e; subst e; split
          · omega
          · rw [← h2]; exact this
        · split
          · rename_i e; subst e; rw [← h2]; exact this
          · exact this
      · by_cases hq : q = x.1
        · subst hq
          rw [if_pos rfl]
          constructor
          · intro hm
            obtain ⟨i, hi, e⟩ := List.getElem_of_mem hm
            simp only [List.length_set] at hi
            rw [List.getElem_set] at e
            split at e
            · exact congrArg (fun z : Itm => some z.2) e
            · rename_i hne
              exfalso
              have e1 : es[i].1 = x.1 := by rw [e]
              rcases Nat.lt_or_gt_of_ne hne with g | g
              · have := h.asc.lt h1 hi g; omega
              · have := h.asc.lt hi h1 g; omega
          · intro e
            cases e
            have : (es.set r x)[r]'(by simpa using h1) = x := by simp
            have h3 := List.getElem_mem (l := es.set r x) (n := r) (by simpa using h1)
            rw [this] at h3; exact h3
        · rw [if_neg hq, ← h.mem]
          constructor
          · intro hm
            rcases List.mem_or_eq_of_mem_set hm with h3 | h3
            · exact h3
            · exact absurd (congrArg Prod.fst h3) hq
          · intro hm
            obtain ⟨i, hi, e⟩ := List.getElem_of_mem hm
            have hne : r ≠ i := fun e2 => by subst e2; rw [e] at h2; exact hq h2
            have : (es.set r x)[i]'(by simpa using hi) = (q, v) := by rw [List.getElem_set_ne hne]; exact e
            rw [← this]; exact List.getElem_mem _
    · rw [if_neg h2] at hl ⊢
      have hx : x.1 < es[r].1 := by have := hr.2.2 r h1 (Nat.le_refl _); omega
      have htk : ∀ y ∈ es.take r, y.1 < x.1 := fun y hy => by
        obtain ⟨i, hi, e⟩ := List.getElem_of_mem hy
        simp only [List.length_take] at hi
        rw [List.getElem_take] at e
        rw [← e]; exact hr.2.1 i (by omega) (by omega)
      have hdr : ∀ y ∈ es.drop r, x.1 < y.1 := fun y hy => by
        obtain ⟨i, hi, e⟩ := List.getElem_of_mem hy
        simp only [List.length_drop] at hi
        rw [List.getElem_drop] at e
        rw [← e]
        by_cases h0 : i = 0
        · subst h0; exact hx
        · have := h.asc.lt h1 (by omega : r + i < es.length) (by omega); omega
      refine ⟨?_, fun q v => ?_⟩
      · refine List.pairwise_append.2 ⟨h.asc.sublist (List.take_sublist _ _), List.pairwise_cons.2 ⟨hdr, h.asc.sublist (List.drop_sublist _ _)⟩, fun a ha b hb => ?_⟩
        have h3 := htk a ha
        rcases List.mem_cons.1 hb with rfl | hb
        · exact h3
        · have := hdr b hb; omega
      · have hmem : (q, v) ∈ es.take r ++ x :: es.drop r ↔ (q, v) = x ∨ (q, v) ∈ es := by
          rw [List.mem_append, List.mem_cons]
          have : (q, v) ∈ es ↔ (q, v) ∈ es.take r ∨ (q, v) ∈ es.drop r := by rw [← List.mem_append, List.take_append_drop]
          rw [this]
          constructor
          · rintro (h | h | h)
            · exact .inr (.inl h)
            · exact .inl h
            · exact .inr (.inr h)
          · rintro (h | h | h)
            · exact .inr (.inl h)
            · exact .inl h
            · exact .inr (.inr h)
        rw [hmem, h.mem]
        by_cases hq : q = x.1
        · subst hq
          rw [if_pos rfl, hl]
          constructor
          · rintro (h | h)
            · rw [← h]
            · cases h
          · intro h; cases h; exact .inl rfl
        · rw [if_neg hq]
          exact ⟨fun h => h.resolve_left fun e => hq (congrArg Prod.fst e), .inr⟩
  · rw [dif_neg h1] at hl ⊢
    have hall : ∀ y ∈ es, y.1 < x.1 := fun y hy => by
      obtain ⟨i, hi, e⟩ := List.getElem_of_mem hy
      rw [← e]; exact hr.2.1 i hi (by omega)
    refine ⟨List.pairwise_append.2 ⟨h.asc, List.pairwise_singleton _ _, fun a ha b hb => ?_⟩, fun q v => ?_⟩
    · rw [List.mem_singleton] at hb; subst hb; exact hall a ha
    · rw [List.mem_append, List.mem_singleton, h.mem]
      by_cases hq : q = x.1
      · subst hq
        rw [if_pos rfl, hl]
        constructor
        · rintro (h | h)
          · cases h
          · rw [← h]
        · intro h; cases h; exact .inr rfl
      · rw [if_neg hq]
        exact ⟨fun h => h.resolve_right fun e => hq (congrArg Prod.fst e), .inl⟩
theorem bput_length (es : List Itm) (r : Nat) (x : Itm) : (bput es r x).length ≤ es.length + 1 := by
  unfold bput
  split
  · split
    · rw [List.length_set]; omega
    · simp only [List.length_append, List.length_take, List.length_cons, List.length_drop]; omega
  · simp
/-! ## The search -/
theorem callV_enter {P : Program} {f : FuncId} {args caps : Array Value} {w : World} (h : ∀ args w, (callFunc f args).run P w = .ok (.enter f args) w) :
    (callV (.func (.func f) #[] caps) args).run P w = .ok (.enter f (args ++ caps)) w := by
  have e := h (args ++ caps) w
  simp [callV, Deferred.ofValue, invoke, e]
theorem ent65 : ∀ args w, (callFunc 65 args).run Tryd.prog w = .ok (.enter 65 args) w := enters_of Tryd.func65 (by kernel_rfl) rfl
section
variable {w : World} {p : Option Addr} {l c : Nat} {es : List Itm}
theorem Own.ei (h : Own w 76 p l c (es.map EI)) {i : Nat} (hi : i < es.length) : ∃ q, p = some ⟨q, 0, none⟩ ∧ w.cell? ⟨q, i, none⟩ = some (EI es[i]) := by
  have hl : es.length = l := by have := h.1; simpa using this
  obtain ⟨q, rest, rfl, _⟩ := h.get (by omega)
  exact ⟨q, rfl, by rw [h.cell (by omega), List.getElem?_map, List.getElem?_eq_getElem hi]; rfl⟩
theorem F64_spec {k : Value → W} {n3 n4 x : Nat} (hB3 : Blk w n3 73 [.slice p es.length c]) (hB4 : Blk w n4 22 [.int .u64 (x : Nat)]) (hX : Own w 76 p es.length c (es.map EI)) (hb : es.length < 100000) (hs : Asc es)
    (hk : ∀ r w', AtK es x r → Fr (fun _ => False) w w' → k (.int .i64 (r : Nat)) w') : F64 k (es.length : Nat) (.func (.func 65) #[] #[.pointer (some ⟨n3, 0, none⟩), .pointer (some ⟨n4, 0, none⟩)]) w := by
  unfold F64
  refine F64_L1_rule (fun f i4 j5 w' => f = .func (.func 65) #[] #[.pointer (some ⟨n3, 0, none⟩), .pointer (some ⟨n4, 0, none⟩)] ∧ ∃ i j : Nat, i4 = i ∧ j5 = j ∧ i ≤ j ∧ j ≤ es.length ∧ (∀ t (h : t < es.length), t < i → es[t].1 < x) ∧ (∀ t (h : t < es.length), j ≤ t → x ≤ es[t].1) ∧ Fr (fun _ => False) w w')
    (fun _ i4 j5 _ => (j5 - i4).toNat) ?_ ⟨rfl, 0, es.length, rfl, rfl, by omega, by omega, fun t h h' => by omega, fun t h h' => by omega, Fr.refl _ _⟩
  rintro f i4 j5 w2 ⟨hf, i, j, rfl, rfl, hij, hj, hL, hR, f2⟩
  obtain rfl := hf.symm
  unfold F64_L1
  by_cases hlt : i < j
  rotate_left
  · have : i = j := by omega
    subst this
    rw [decide_eq_false (by omega)]
    simp only [BIf_false]
    exact hk i w2 ⟨hj, hL, hR⟩ f2
  rw [decide_eq_true (by omega)]
  simp only [BIf_true]
  have eh : IntKind.wrap .i64 (shrI .u64 (IntKind.wrap .u64 (addI .i64 (i : Nat) (j : Nat))) 1) = (((i + j) / 2 : Nat) : Int) := by
    rw [addI_i64 (by omega) (by omega), wrap_u64 (by omega) (by omega)]
    have : shrI .u64 ((i : Int) + j) 1 = (((i + j) / 2 : Nat) : Int) := by
      unfold shrI
      rw [show min 1 IntKind.u64.bits = 1 from rfl]
      rw [Int.fdiv_eq_ediv_of_nonneg _ (by decide)]
      omega
    rw [this, wrap_i64 (by omega) (by omega)]
  rw [eh]
  refine bind_intro ?_
  have hh : (i + j) / 2 < es.length := by omega
  have hm1 : i ≤ (i + j) / 2 := by omega
  have hm2 : (i + j) / 2 < j := by omega
  generalize (i + j) / 2 = m at *
  refine NextT_enter (callV_enter ent65) ?_
  refine F65_calls ?_
  unfold F65
  refine drw_intro fun w3 f3 z3 => ?_
  have f03 := f2.trans f3 fun _ h => h.elim
  obtain ⟨q, rfl, c1⟩ := (hX.fr f03 fun _ _ h => h).ei hh
  have b3 := hB3.fr f03 id
  have b4 := hB4.fr f03 id
  refine load_slice b3 rfl ?_
  simp only [NN_mk, Int.toNat_natCast, add_mk, Nat.zero_add]
  refine ⟨by omega, LoadT_any.2 ⟨_, c1, load_int b4 rfl ?_⟩⟩
  refine key_intro (KP.item es[m].1 es[m].2) fun w4 f4 => ?_
  have f04 := f03.trans f4 fun _ h => h.elim
  refine ⟨by rw [(b4.fr f4 id).cell]; rfl, by rw [(b3.fr f4 id).cell]; rfl, ?_⟩
  refine back_bool ?_
  by_cases hvx : x ≤ es[m].1
  · rw [decide_eq_true (show ((es[m].1 : Nat) : Int) ≥ ((x : Nat) : Int) by omega)]
    simp only [Bool.not_true, BIf_false]
    refine ⟨⟨(by trivial), i, m, rfl, rfl, by omega, by omega, hL, fun t h h' => ?_, f04⟩, by omega⟩
    rcases Nat.lt_or_ge m t with e | e
    · have := hs.lt hh h e; omega
    · have : t = m := by omega
      subst this; exact hvx
  · rw [decide_eq_false (show ¬ ((es[m].1 : Nat) : Int) ≥ ((x : Nat) : Int) by omega)]
    simp only [Bool.not_false, BIf_true]
    rw [add_one (by omega)]
    refine ⟨⟨(by trivial), m + 1, j, rfl, rfl, by omega, by omega, fun t h h' => ?_, hR, f04⟩, by omega⟩
    rcases Nat.lt_or_ge t m with e | e
    · have := hs.lt h hh e; omega
    · have ht : t = m := by omega
      subst ht; omega
theorem F63_spec {k : Value → W} {x : Nat} (hX : Own w 76 p l c (es.map EI)) (hb : es.length < 100000) (hs : Asc es)
    (hk : ∀ r w', AtK es x r → Fr (fun _ => False) w w' → k (.int .i64 (r : Nat)) w') : F63 k p l c (x : Nat) w := by
  have hl : es.length = l := by have := hX.1; simpa using this
  subst hl
  unfold F63
  refine new_intro fun n3 w3 e3 b3 f3 z3 => ?_
  refine new_intro fun n4 w4 e4 b4 f4 z4 => ?_
  have f04 := f3.trans f4 fun _ h => h.elim
  have b34 := b3.fr f4 id
  refine load_slice b34 rfl ?_
  refine F64_call (F64_spec b34 b4 (hX.fr f04 fun _ _ h => h) hb hs fun r w5 hr f5 => back_int ?_)
  exact hk r w5 hr (f04.trans f5 fun _ h => h.elim)
/-- get. -/
theorem F61_spec {k : Value → W} {f : Nat → Option Int} {x : Nat} (hX : Own w 76 p l c (es.map EI)) (hb : es.length < 100000) (hf : Bk es f)
    (hk : ∀ w', Fr (fun _ => False) w w' → k (((f x).map fun v => EI (x, v)).getD .nilIface) w') : F61 k p l c (x : Nat) w := by
  have hl : es.length = l := by have := hX.1; simpa using this
  unfold F61
  refine F63_call (F63_spec hX hb hf.asc fun r w1 hr f1 => back_int ?_)
  have hlook := hf.look hr
  by_cases h1 : r < es.length
  · rw [dif_pos h1] at hlook
    rw [show (((r : Nat) : Int) == ((l : Nat) : Int)) = false by rw [beq_eq_false_iff_ne]; omega]
    obtain ⟨q, rfl, c1⟩ := (hX.fr f1 fun _ _ h => h).ei h1
    simp only [BIf_false, NN_mk, Int.toNat_natCast, add_mk, Nat.zero_add]
    refine ⟨by omega, LoadT_any.2 ⟨_, c1, ?_⟩⟩
    refine key_intro (KP.item es[r].1 es[r].2) fun w2 f2 => ?_
    by_cases h2 : es[r].1 = x
    · rw [if_pos h2] at hlook
      rw [show (((es[r].1 : Nat) : Int) == ((x : Nat) : Int)) = true by rw [h2]; simp]
      simp only [BIf_true]
      refine ⟨by omega, LoadT_any.2 ⟨_, by rw [f2.cell (cell_lt c1) id]; exact c1, ?_⟩⟩
      have := hk w2 (f1.trans f2 fun _ h => h.elim)
      rw [hlook] at this
      have e : EI es[r] = EI (x, es[r].2) := by rw [← h2]
      rw [e]; exact this
    · rw [if_neg h2] at hlook
      rw [show (((es[r].1 : Nat) : Int) == ((x : Nat) : Int)) = false by rw [beq_eq_false_iff_ne]; omega]
      simp only [BIf_false]
      have := hk w2 (f1.trans f2 fun _ h => h.elim)
      rw [hlook] at this
      exact this
  · rw [dif_neg h1] at hlook
    have := hr.1
    rw [show (((r : Nat) : Int) == ((l : Nat) : Int)) = true by rw [beq_iff_eq]; omega]
    simp only [BIf_true]
    have := hk w1 f1
    rw [hlook] at this
    exact this
end
end Go.Proofs.YtaacaokocamlcaaDoor.E

namespace Go.Proofs.YtaacaokocamlcaaDoor.E
open Go
set_option linter.unusedSimpArgs false
set_option linter.unusedVariables false
set_option maxRecDepth 100000
set_option maxHeartbeats 8000000

theorem und73 : Tryd.prog.underlying 73 = some (.slice 76) := by kernel_rfl
theorem inf76 : ∃ i, Tryd.prog.info? 76 = some i ∧ i.zero = some .nilIface ∧ i.size = 1 ∧ i.bytes ≤ 4096 := ⟨_, rfl, by kernel_rfl, by kernel_rfl, Nat.le_of_ble_eq_true (by kernel_rfl)⟩
def ovr (x : Nat) (o : Option Int) : Value := (o.map fun v => EI (x, v)).getD .nilIface
theorem EI_one (x : Itm) : oneC (EI x) = true := rfl
theorem shift_lists {α : Type} (A : List α) (n y : α) (r : Nat) (hr : r < A.length) (rest : List α) :
    (((A ++ [n] ++ rest).take (r + 1) ++ A.drop r ++ (A ++ [n] ++ rest).drop (r + 1 + (A.drop r).length)).set r y) = (A.take r ++ y :: A.drop r) ++ rest := by
  have h1 : (A ++ [n] ++ rest).take (r + 1) = A.take (r + 1) := by
    rw [List.append_assoc, List.take_append_of_le_length (by omega)]
  have h2 : (A ++ [n] ++ rest).drop (r + 1 + (A.drop r).length) = rest := by
    rw [List.length_drop, show r + 1 + (A.length - r) = (A ++ [n]).length by simp; omega, List.drop_left]
  rw [h1, h2]
  have h3 : A.take (r + 1) = A.take r ++ [A[r]] := by rw [List.take_add_one, List.getElem?_eq_getElem hr]; rfl
  rw [h3, List.append_assoc, List.append_assoc, List.set_append_right _ _ (by simp; omega)]
  have : (A.take r).length = r := by simp; omega
  rw [this, Nat.sub_self]
  simp
section
variable {w : World} {p : Option Addr} {l c : Nat} {es : List Itm}
/-- insert. -/
theorem F59_spec {k : Value → W} {f : Nat → Option Int} {x : Itm} {b o t : Nat} {us : List Value} (hB : Blk w b t us) (ho : us[o]? = some (.slice p l c)) (hpb : ¬ bl p b) (hX : Own w 76 p l c (es.map EI)) (hb : es.length < 90000) (hf : Bk es f)
    (hk : ∀ es' p' c' w', Bk es' (fun q => if q = x.1 then some x.2 else f q) → es'.length ≤ es.length + 1 → Blk w' b t (us.set o (.slice p' es'.length c')) → Own w' 76 p' es'.length c' (es'.map EI) → (∀ b, bl p' b → bl p b ∨ w.heap.size ≤ b) → Fr (fun z => z = b ∨ bl p z) w w' → k (ovr x.1 (f x.1)) w') : F59 k (some ⟨b, o, none⟩) (EI x) w := by
  have hl : es.length = l := by have := hX.1; simpa using this
  subst hl
  obtain ⟨i76, g1, g2, g3, g4⟩ := inf76
  have hoi : o < us.length := (List.getElem?_eq_some_iff.1 ho).1
  unfold F59
  refine drw_intro fun w1 f1 z1 => ?_
  have B1 := hB.fr f1 id
  simp only [NN_mk]
  refine load_slice (i := o) B1 ho ?_
  refine key_intro (KP.item x.1 x.2) fun w2 f2 => ?_
  have f02 := f1.trans f2 fun _ h => h.elim
  have B2 := hB.fr f02 id
  refine ⟨by rw [B2.cell]; exact ho, ?_⟩
  refine F63_call (F63_spec (hX.fr f02 fun _ _ h => h) (by omega) hf.asc fun r w3 hr f3 => back_int ?_)
  have f03 := f02.trans f3 fun _ h => h.elim
  have B3 := hB.fr f03 id
  have X3 := hX.fr f03 fun _ _ h => h
  have hlook := hf.look hr
  have hput := hf.put hr
  have hz := f03.size
  refine load_slice (i := o) B3 ho ?_
  by_cases h1 : r < es.length
  rotate_left
  · -- behind all
    rw [dif_neg h1] at hlook
    have hrl := hr.1
    rw [show (((r : Nat) : Int) == ((es.length : Nat) : Int)) = true by rw [beq_iff_eq]; omega]
    simp only [BIf_true]
    refine load_slice (i := o) B3 ho ?_
    refine append1 (P := Tryd.prog) und73 g1 g2 g3 rfl g4 X3 (v := EI x) rfl rfl (by omega) fun p' c' w4 f4 o4 hp4 hz4 => ?_
    refine store_intro (i := o) (B3.fr f4 hpb) hoi rfl fun w5 b5 f5 z5 => ?_
    have e : bput es r x = es ++ [x] := by unfold bput; rw [dif_neg h1]
    have hpb' : ¬ bl p' b := fun h => by
      rcases hp4 b h with h | h
      · exact hpb h
      · have := B3.lt; omega
    have := hk (bput es r x) p' c' w5 hput (bput_length es r x) ?_ ?_ (fun b hb => (hp4 b hb).imp id fun h => by omega) (((f03.mono fun _ h => h.elim).trans f4 fun b h => .inl (.inr h)).trans f5 fun b h => .inl (.inl h))
    · rw [hlook] at this; exact this
    · rw [e, List.length_append]; exact b5
    · rw [e, List.length_append, List.map_append]
      exact o4.fr f5 fun z hz e => hpb' (by have : z = b := e; rw [← this]; exact hz)
  rw [dif_pos h1] at hlook
  rw [show (((r : Nat) : Int) == ((es.length : Nat) : Int)) = false by rw [beq_eq_false_iff_ne]; omega]
  simp only [BIf_false]
  refine load_slice (i := o) B3 ho ?_
  obtain ⟨q, rfl, c1⟩ := X3.ei h1
  have hqb : q ≠ b := fun e => hpb ⟨_, rfl, e⟩
  simp only [NN_mk, Int.toNat_natCast, add_mk, Nat.zero_add]
  refine ⟨by omega, LoadT_any.2 ⟨_, c1, ?_⟩⟩
  refine key_intro (KP.item es[r].1 es[r].2) fun w4 f4 => ?_
  refine key_intro (KP.item x.1 x.2) fun w5 f5 => ?_
  have f05 := (f03.trans f4 fun _ h => h.elim).trans f5 fun _ h => h.elim
  have B5 := hB.fr f05 id
  have X5 := hX.fr f05 fun _ _ h => h
  obtain ⟨q', hq', c5⟩ := X5.ei h1
  cases hq'
  have hz5 := f05.size
  by_cases h2 : es[r].1 = x.1
  · rw [if_pos h2] at hlook
    rw [show (((es[r].1 : Nat) : Int) == ((x.1 : Nat) : Int)) = true by rw [h2]; simp]
    simp only [BIf_true]
    refine load_slice (i := o) B5 ho ?_
    simp only [NN_mk, Int.toNat_natCast, add_mk, Nat.zero_add]
    refine ⟨by omega, LoadT_any.2 ⟨_, c5, ?_⟩⟩
    refine load_slice (i := o) B5 ho ?_
    simp only [NN_mk, Int.toNat_natCast, add_mk, Nat.zero_add]
    refine ⟨by omega, rfl, Store1_iff.2 ⟨rfl, ⟨_, c5⟩, X5.frozen r, ?_⟩⟩
    have hput' : bput es r x = es.set r x := by unfold bput; rw [dif_pos h1, if_pos h2]
    have fs : Fr (fun z => z = q) w5 (w5.setCell ⟨q, r, none⟩ (EI x)) := Fr.setCell _ _ _ rfl
    have := hk (bput es r x) (some ⟨q, 0, none⟩) c (w5.setCell ⟨q, r, none⟩ (EI x)) hput (bput_length es r x) ?_ ?_ (fun b hb => .inl hb) ((f05.mono fun _ h => h.elim).trans fs fun b h => .inl (.inr ⟨_, rfl, h.symm⟩))
    · rw [hlook] at this
      have e : EI es[r] = ovr x.1 (some es[r].2) := by unfold ovr; rw [← h2]; rfl
      rw [e]; exact this
    · rw [hput', List.length_set]
      have hset : us.set o (.slice (some ⟨q, 0, none⟩) es.length c) = us := by
        refine List.ext_getElem? fun j => ?_
        rw [List.getElem?_set]
        split
        · rename_i e; subst e; exact ho.symm
        · rfl
      rw [hset]
      exact B5.fr fs fun e => hqb e.symm
    · rw [hput', List.length_set, List.map_set]
      exact X5.set h1 (EI x)
  · rw [if_neg h2] at hlook
    rw [show (((es[r].1 : Nat) : Int) == ((x.1 : Nat) : Int)) = false by rw [beq_eq_false_iff_ne]; omega]
    simp only [BIf_false]
    refine load_slice (i := o) B5 ho ?_
    refine append1 (P := Tryd.prog) und73 g1 g2 g3 rfl g4 X5 (v := .nilIface) rfl rfl (by omega) fun p' c' w6 f6 o6 hp6 hz6 => ?_
    have B6 := B5.fr f6 hpb
    refine store_intro (i := o) B6 hoi rfl fun w7 b7 f7 z7 => ?_
    have hpb' : ¬ bl p' b := fun h => by
      rcases hp6 b h with h | h
      · exact hpb h
      · have := B5.lt; omega
    have hne7 : ∀ z, bl p' z → ¬ z = b := fun z hz e => hpb' (e ▸ hz)
    refine drw_intro fun w8 f8 z8 => ?_
    have b8 := b7.fr f8 id
    have o8 := (o6.fr f7 hne7).fr f8 fun _ _ h => h
    have ho8 : (us.set o (.slice p' (es.length + 1) c'))[o]? = some (.slice p' (es.length + 1) c') := by rw [List.getElem?_set]; simp [hoi]
    obtain ⟨q', rest, rfl, hBq, hcq, hmq⟩ := o8.get (by omega)
    simp only [List.length_append, List.length_map, List.length_cons, List.length_nil] at hcq
    refine load_slice (i := o) b8 ho8 ?_
    rw [add_one (by omega)]
    refine ⟨by omega, ?_⟩
    refine load_slice (i := o) b8 ho8 ?_
    refine ⟨by omega, ?_⟩
    simp only [Int.toNat_natCast]
    have es1 : sliceA (some ⟨q', 0, none⟩) (r + 1) c' 1 = some ⟨q', r + 1, none⟩ := by unfold sliceA; rw [if_neg (by omega)]; simp [add_mk]
    have es2 : sliceA (some ⟨q', 0, none⟩) r c' 1 = some ⟨q', r, none⟩ := by unfold sliceA; rw [if_neg (by omega)]; simp [add_mk]
    rw [es1, es2]
    refine copy_intro (P := Tryd.prog) und73 (by rw [g1]; exact congrArg some g3) hBq (src := (es.map EI).drop r) (by simp; omega) (fun j v hj => ?_) (by simp; omega) (fun v hv => ?_) fun w9 b9 f9 z9 => ?_
    · rw [add_mk, hBq.cell]
      have hjl : j < es.length - r := by have := (List.getElem?_eq_some_iff.1 hj).1; simpa using this
      rw [List.append_assoc, List.getElem?_append_left (by simp; omega)]
      rw [List.getElem?_drop] at hj; exact hj
    · obtain ⟨y, _, rfl⟩ := List.mem_map.1 (List.mem_of_mem_drop hv)
      rfl
    have hq'b : ¬ b = q' := fun e => hpb' ⟨_, rfl, e.symm⟩
    have b89 := b8.fr f9 hq'b
    refine ⟨by rw [b89.cell]; exact ho8, by rw [b89.cell]; exact ho8, ?_⟩
    refine load_slice (i := o) b89 ho8 ?_
    simp only [NN_mk, Int.toNat_natCast, add_mk, Nat.zero_add]
    refine ⟨by omega, rfl, ?_⟩
    refine store_intro (i := r) b9 (by simp; omega) rfl fun wa ba fa za => ?_
    have hshift := shift_lists (es.map EI) .nilIface (EI x) r (by simpa using h1) rest
    rw [hshift] at ba
    have hput' : bput es r x = es.take r ++ x :: es.drop r := by unfold bput; rw [dif_pos h1, if_neg h2]
    have hmap : (bput es r x).map EI = (es.map EI).take r ++ EI x :: (es.map EI).drop r := by rw [hput']; simp [List.map_take, List.map_drop]
    have hlen : (bput es r x).length = es.length + 1 := by rw [hput']; simp; omega
    have := hk (bput es r x) (some ⟨q', 0, none⟩) c' wa hput (bput_length es r x) ?_ ?_ (fun z hz => (hp6 z hz).imp id fun h => by omega) ?_
    · rw [hlook] at this; exact this
    · rw [hlen]; exact b89.fr fa hq'b
    · rw [hlen, hmap]
      exact ⟨by simp; omega, .inr ⟨q', rest, rfl, ba, by simp; omega, hmq⟩⟩
    · have a1 : Fr (fun z => z = b ∨ bl (some ⟨q, 0, none⟩) z) w w8 := (((f05.mono fun _ h => h.elim).trans f6 fun b h => .inl (.inr h)).trans f7 fun b h => .inl (.inl h)).trans f8 fun _ h => h.elim
      have hin : ∀ z, z = q' → (z = b ∨ bl (some ⟨q, 0, none⟩) z) ∨ w.heap.size ≤ z := fun z hz => by
        rcases hp6 z ⟨_, rfl, hz.symm⟩ with h | h
        · exact .inl (.inr h)
        · exact .inr (by omega)
      exact (a1.trans f9 fun z h => hin z h).trans fa fun z h => hin z h
end
end Go.Proofs.YtaacaokocamlcaaDoor.E
