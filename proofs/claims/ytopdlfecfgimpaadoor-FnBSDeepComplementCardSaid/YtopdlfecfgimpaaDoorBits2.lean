/-
  The bitset as a list of its places: set64 builds the bitset of a list, said64 lists a bitset.
-/
import Derived.Test.YtopdlfecfgimpaaDoorBs
namespace Go.Proofs.YtopdlfecfgimpaaDoor.E
open Go
set_option linter.unusedSimpArgs false
set_option linter.unusedVariables false
set_option maxRecDepth 100000

/-- The numbers ns are read from p on. -/
def Sees (w : World) (p : Option Addr) (ns : List Nat) : Prop :=
  ns = [] ∨ ∃ a, p = some a ∧ a.block < w.heap.size ∧ ∀ i, i < ns.length → w.cell? (a.add i) = some (.int .u64 (ns.getD i 0 : Nat))
theorem add_block (a : Addr) (i : Nat) : (a.add i).block = a.block := by
  unfold Addr.add; split <;> rfl
theorem Sees.fr {S : Nat → Prop} {w w' : World} {p : Option Addr} {ns : List Nat} (h : Sees w p ns) (f : Fr S w w') (hS : ∀ b, b < w.heap.size → ¬ S b) : Sees w' p ns := by
  refine h.imp id ?_
  rintro ⟨a, rfl, hb, hc⟩
  exact ⟨a, rfl, Nat.lt_of_lt_of_le hb f.size, fun i hi => by rw [f.cell (by rw [add_block]; exact hb) (by rw [add_block]; exact hS _ hb)]; exact hc i hi⟩
theorem Sees.fr0 {w w' : World} {p : Option Addr} {ns : List Nat} (h : Sees w p ns) (f : Fr (fun _ => False) w w') : Sees w' p ns := h.fr f fun _ _ h => h
theorem Own.sees {w : World} {p : Option Addr} {l c : Nat} {ns : List Nat} (h : Own w 22 p l c (us ns)) : Sees w p ns := by
  have hl : ns.length = l := by have := h.1; simpa using this
  rcases h.2 with ⟨rfl, rfl, rfl⟩ | ⟨q, rest, rfl, hb, hc, hm⟩
  · exact .inl (List.length_eq_zero_iff.1 hl)
  · refine .inr ⟨_, rfl, hb.lt, fun i hi => ?_⟩
    rw [add_mk, Nat.zero_add, hb.cell, List.getElem?_append_left (by simpa using hi), us_get _ _ hi]

/-- The list of a bitset's places. -/
def L (n : Nat) (f : Nat → Bool) : List Nat := (List.range n).filter f
theorem L_succ (n : Nat) (f : Nat → Bool) : L (n + 1) f = L n f ++ (if f n then [n] else []) := by
  unfold L; rw [List.range_succ, List.filter_append]; simp [List.filter]; split <;> simp_all
theorem mem_L {n : Nat} {f : Nat → Bool} {i : Nat} : i ∈ L n f ↔ i < n ∧ f i = true := by simp [L]
theorem L_length_le (n : Nat) (f : Nat → Bool) : (L n f).length ≤ n := by
  have := List.length_filter_le f (List.range n); simpa [L] using this

theorem Test_spec {b q n i : Nat} {f : Nat → Bool} {k : Value → W} {w : World} (h : BSet w b q n f) (hi : i < 16777216) (hk : ∀ w', Fr (fun _ => False) w w' → k (.bool (f i)) w') : F39 k (some ⟨b, 0, none⟩) i w := by
  obtain ⟨⟨ws, rest, hm, hf⟩, hl⟩ := h
  refine F39_spec hm hi fun w' fr => ?_
  rw [hf i]
  have e : (decide (i < n) && f i) = f i := by
    cases hfi : f i with
    | false => simp
    | true => simp [hl i hfi]
  rw [e]; exact hk w' fr
theorem Len_spec {b q n : Nat} {f : Nat → Bool} {k : Value → W} {w : World} (h : BSet w b q n f) (hk : k (.int .u64 n) w) : F44 k (some ⟨b, 0, none⟩) w := by
  obtain ⟨⟨ws, rest, hm, hf⟩, hl⟩ := h
  exact F44_spec hm hk

/-- set64. -/
theorem F29_spec {n c : Nat} {p : Option Addr} {ns : List Nat} {k : Value → W} {w : World} (hn : n < 1048576) (hs : Sees w p ns) (hlt : ∀ x ∈ ns, x < n) (hlen : ns.length < 4294967296)
    (hk : ∀ b q w', BSet w' b q n (fun j => decide (j ∈ ns)) → Fr (fun _ => False) w w' → w.heap.size ≤ b → w.heap.size ≤ q → k (.pointer (some ⟨b, 0, none⟩)) w') : F29 k n p ns.length c w := by
  unfold F29
  simp only [New_iff]
  generalize hv : ([.int .u64 n, .slice p ns.length c] : List Value) = vs
  have b0 : Blk (w.alloc (.cells vs.toArray 25)) w.heap.size 25 vs := Blk.new' _ _ _
  have f0 : Fr (fun _ => False) w (w.alloc (.cells vs.toArray 25)) := Fr.alloc _ _ _
  generalize w.alloc (.cells vs.toArray 25) = w0 at *
  subst hv
  simp only [LoadT_int, b0.cell, List.getElem?_cons_zero, Option.some.injEq, Value.int.injEq, true_and, exists_eq_left']
  refine F50_call (F50_spec hn fun b q w1 h1 f1 hb hq => back_ptr ?_)
  have b1 := b0.fr f1 id
  have s1 := (hs.fr0 f0).fr0 f1
  simp only [LoadT_slice, add_mk, Nat.zero_add, b1.cell, List.getElem?_cons_succ, List.getElem?_cons_zero, Option.some.injEq, Value.slice.injEq]
  refine ⟨_, _, _, ⟨rfl, rfl, rfl⟩, ?_⟩
  have hb' : w.heap.size ≤ b := Nat.le_trans f0.size hb
  have hq' : w.heap.size ≤ q := Nat.le_trans f0.size hq
  refine F29_L1_rule (fun x sp sl sc x9 x10 w2 => x = some ⟨b, 0, none⟩ ∧ sp = p ∧ sl = ns.length ∧ x9 = ((ns.length : Nat) : Int) ∧
      ∃ (i q' : Nat), x10 = i ∧ i ≤ ns.length ∧ BSet w2 b q' n (fun j => decide (j ∈ ns.take i)) ∧ Fr (fun _ => False) w w2 ∧ w.heap.size ≤ q')
    (fun _ _ _ _ _ x10 _ => ns.length - x10.toNat) ?_ ?_
  · rintro x sp sl sc x9 x10 w2 ⟨rfl, rfl, rfl, rfl, i, q', rfl, hi, h2, f2, hq2⟩
    have s2 := hs.fr0 f2
    unfold F29_L1
    refine BIf_intro (fun hc => ?_) (fun hc => ?_)
    · have hc := of_decide_eq_true hc
      have hi' : i < ns.length := by omega
      rcases s2 with rfl | ⟨a, rfl, ha, hcell⟩
      · simp at hi'
      have hxm : ns.getD i 0 ∈ ns := by rw [List.getD_eq_getElem?_getD, List.getElem?_eq_getElem hi']; exact List.getElem_mem hi'
      have hx := hlt _ hxm
      simp only [NN_mk, Req_iff, LoadT_int, Int.toNat_natCast, hcell i hi', Option.some.injEq, Value.int.injEq, true_and, exists_eq_left']
      refine ⟨⟨by omega, by omega⟩, ?_⟩
      refine F30_call (F30_spec h2 (by omega) fun q3 w3 h3 f3 hq3 => back_ptr ?_)
      have hq3' : w.heap.size ≤ q3 := by
        rcases hq3 with rfl | h
        · exact hq2
        · exact Nat.le_trans f2.size h
      refine ⟨⟨i + 1, q3, ?_, by omega, ?_, ?_, hq3'⟩, ?_⟩
      · rw [addI_i64 (by omega) (by omega)]; omega
      · have e : max n (ns.getD i 0 + 1) = n := by omega
        rw [e] at h3
        have e2 : (fun j => decide (j ∈ ns.take i) || decide (j = ns.getD i 0)) = fun j => decide (j ∈ ns.take (i + 1)) := by
          funext j
          have et : ns.take (i + 1) = ns.take i ++ [ns.getD i 0] := by
            rw [List.take_add_one, List.getD_eq_getElem?_getD, List.getElem?_eq_getElem hi']; rfl
          rw [et]; simp only [List.mem_append, List.mem_singleton, Bool.decide_or]
        rw [e2] at h3; exact h3
      · exact f2.trans f3 fun x e => by rcases e with rfl | rfl; exact .inr hb'; exact .inr hq2
      · rw [addI_i64 (by omega) (by omega)]; omega
    · have hc := of_decide_eq_false hc
      have : i = ns.length := by omega
      subst this
      rw [List.take_length] at h2
      exact hk b q' w2 h2 f2 hb' hq2
  · refine ⟨rfl, rfl, rfl, rfl, 0, q, rfl, by omega, ?_, f0.trans f1 fun _ h => h.elim, hq'⟩
    simpa using h1

theorem u64_oneCell (n : Int) : (Value.int .u64 n).oneCell' = true := rfl
/-- said64. -/
theorem F31_spec {b q n : Nat} {f : Nat → Bool} {k : Value → W} {w : World} (hn : n < 1048576) (h : BSet w b q n f)
    (hk : ∀ p c w', Own w' 22 p (L n f).length c (us (L n f)) → Fr (fun _ => False) w w' → (∀ x, bl p x → w.heap.size ≤ x) → k (.agg #[.int .u64 n, .slice p (L n f).length c]) w') : F31 k (some ⟨b, 0, none⟩) w := by
  unfold F31
  simp only [New_iff]
  have a0 : Blk (w.alloc (.cells [.int .u64 0, .slice none 0 0].toArray 25)) w.heap.size 25 [.int .u64 0, .slice none 0 0] := Blk.new' _ _ _
  have f0 : Fr (fun _ => False) w (w.alloc (.cells [.int .u64 0, .slice none 0 0].toArray 25)) := Fr.alloc _ _ _
  have hs0 : (w.alloc (.cells [.int .u64 0, .slice none 0 0].toArray 25)).heap.size = w.heap.size + 1 := by simp
  generalize w.alloc (.cells [.int .u64 0, .slice none 0 0].toArray 25) = w0 at *
  refine F44_call (Len_spec (h.fr f0 id id) (back_int ?_))
  simp only [New_iff]
  have o1 : Blk (w0.alloc (.cells [.int .u64 0, .slice none 0 0].toArray 25)) w0.heap.size 25 [.int .u64 0, .slice none 0 0] := Blk.new' _ _ _
  have f1 : Fr (fun _ => False) w0 (w0.alloc (.cells [.int .u64 0, .slice none 0 0].toArray 25)) := Fr.alloc _ _ _
  have a1 := a0.fr f1 id
  have hs1 : (w0.alloc (.cells [.int .u64 0, .slice none 0 0].toArray 25)).heap.size = w.heap.size + 2 := by simp [hs0]
  have f01 := f0.trans f1 fun _ h => h.elim
  generalize w0.alloc (.cells [.int .u64 0, .slice none 0 0].toArray 25) = w1 at *
  rw [hs0] at o1 ⊢
  have hl := h.lt
  simp only [Store1_iff, oneC_int, oneC_slice, true_and, add_mk, Nat.zero_add]
  refine ⟨⟨_, by rw [o1.cell]; rfl⟩, o1.frozen 0, ?_⟩
  have o2 := o1.set 0 (.int .u64 n)
  have a2 := a1.set_ne (a := ⟨w.heap.size + 1, 0, none⟩) (.int .u64 n) (Nat.ne_of_lt (Nat.lt_succ_self _))
  have f2 : Fr (fun x => x = w.heap.size + 1) w1 (w1.setCell ⟨w.heap.size + 1, 0, none⟩ (.int .u64 n)) := Fr.setCell _ _ _ rfl
  generalize w1.setCell ⟨w.heap.size + 1, 0, none⟩ (.int .u64 n) = w2 at *
  refine ⟨⟨_, by rw [o2.cell]; rfl⟩, o2.frozen 1, ?_⟩
  have o3 := o2.set 1 (.slice none 0 0)
  have a3 := a2.set_ne (a := ⟨w.heap.size + 1, 1, none⟩) (.slice none 0 0) (Nat.ne_of_lt (Nat.lt_succ_self _))
  have f3 : Fr (fun x => x = w.heap.size + 1) w2 (w2.setCell ⟨w.heap.size + 1, 1, none⟩ (.slice none 0 0)) := Fr.setCell _ _ _ rfl
  generalize w2.setCell ⟨w.heap.size + 1, 1, none⟩ (.slice none 0 0) = w3 at *
  have f03 : Fr (fun _ => False) w w3 := (f01.trans f2 fun x e => .inr (by omega)).trans f3 fun x e => .inr (by omega)
  have hs3 : w.heap.size + 2 ≤ w3.heap.size := by have := f2.size; have := f3.size; omega
  clear f2 f3 f0 f1 f01
  refine F31_L1_rule (fun x a6 o i' w4 => x = some ⟨b, 0, none⟩ ∧ a6 = ⟨w.heap.size, 0, none⟩ ∧ o = ⟨w.heap.size + 1, 0, none⟩ ∧
      ∃ (i c : Nat) (p : Option Addr), i' = i ∧ i ≤ n ∧ Fr (fun _ => False) w w4 ∧ w.heap.size + 2 ≤ w4.heap.size ∧ Blk w4 w.heap.size 25 [.int .u64 0, .slice none 0 0] ∧
        Blk w4 (w.heap.size + 1) 25 [.int .u64 n, .slice p (L i f).length c] ∧ Own w4 22 p (L i f).length c (us (L i f)) ∧ (∀ x, bl p x → w.heap.size + 2 ≤ x))
    (fun _ _ _ i' _ => n - i'.toNat) ?_ ?_
  · rintro x a6 o i' w4 ⟨rfl, rfl, rfl, i, c, p, rfl, hi, f4, hs4, a4, o4, own, hp⟩
    unfold F31_L1
    simp only [LoadT_int, o4.cell, List.getElem?_cons_zero, Option.some.injEq, Value.int.injEq, true_and, exists_eq_left']
    refine BIf_intro (fun hc => ?_) (fun hc => ?_)
    · have hc := of_decide_eq_true hc
      refine F39_call (Test_spec (h.fr f4 id id) (by omega) fun w5 f5 => back_bool ?_)
      have o5 := o4.fr f5 id
      have a5 := a4.fr f5 id
      have own5 := own.fr f5 fun _ _ h => h
      have f05 := f4.trans f5 fun _ h => h.elim
      have hs5 := f5.size
      have ei : addI .u64 (i : Int) 1 = ((i + 1 : Nat) : Int) := by rw [addI_u64 (by omega) (by omega)]; omega
      refine BIf_intro (fun hb => ?_) (fun hb => ?_)
      · simp only [LoadT_slice, add_mk, Nat.zero_add, o5.cell, List.getElem?_cons_succ, List.getElem?_cons_zero, Option.some.injEq, Value.slice.injEq]
        refine ⟨_, _, _, ⟨rfl, rfl, rfl⟩, ?_⟩
        obtain ⟨ii, hi1, hi2, hi3, hi4⟩ := inf22
        have hll := L_length_le i f
        refine append1 (P := Go.Proofs.Tryd.prog) und23 hi1 hi2 hi3 rfl (by omega) own5 rfl rfl (by omega) fun p' c' w6 f6 own6 hp6 hs6 => ?_
        have hne1 : ¬ bl p (w.heap.size + 1) := fun e => by have := hp _ e; omega
        have hne0 : ¬ bl p w.heap.size := fun e => by have := hp _ e; omega
        have o6 := o5.fr f6 hne1
        have a6 := a5.fr f6 hne0
        simp only [Store1_iff, oneC_slice, true_and, add_mk, Nat.zero_add]
        refine ⟨⟨_, by rw [o6.cell]; rfl⟩, o6.frozen 1, ?_⟩
        have hp' : ∀ x, bl p' x → w.heap.size + 2 ≤ x := fun x hx => by
          rcases hp6 x hx with h | h
          · exact hp x h
          · omega
        have eL : L (i + 1) f = L i f ++ [i] := by rw [L_succ, hb]; rfl
        refine ⟨⟨i + 1, c', p', by rw [ei], by omega, ?_, by simp; omega, a6.set_ne _ (Nat.ne_of_lt (Nat.lt_succ_self _)), ?_, ?_, hp'⟩, ?_⟩
        · refine (f05.trans f6 fun x e => .inr (by have := hp _ e; omega)).trans (Fr.setCell (S := fun x => x = w.heap.size + 1) _ _ _ rfl) fun x e => .inr (by omega)
        · have := o6.set 1 (.slice p' ((L i f).length + 1) c')
          rw [eL, List.length_append]; exact this
        · rw [eL, List.length_append, us_append]
          exact own6.fr (Fr.setCell (S := fun x => x = w.heap.size + 1) _ _ _ rfl) fun x hx e => by have := hp' x hx; omega
        · rw [ei]; omega
      · have eL : L (i + 1) f = L i f := by rw [L_succ, hb]; simp
        refine ⟨⟨i + 1, c, p, ei, by omega, f05, by omega, a5, by rw [eL]; exact o5, by rw [eL]; exact own5, hp⟩, ?_⟩
        rw [ei]; omega
    · have hc := of_decide_eq_false hc
      have : i = n := by omega
      subst this
      simp only [LoadT_int, LoadT_slice, add_mk, Nat.zero_add, Nat.add_zero, o4.cell, List.getElem?_cons_succ, List.getElem?_cons_zero, Option.some.injEq, Value.slice.injEq, Value.int.injEq, true_and, exists_eq_left']
      refine ⟨_, _, _, ⟨rfl, rfl, rfl⟩, ?_⟩
      simp only [Store1_iff, oneC_slice, oneC_int, true_and]
      refine ⟨⟨_, by rw [a4.cell]; rfl⟩, a4.frozen 0, ?_⟩
      have a5 := a4.set 0 (.int .u64 i)
      have f5 : Fr (fun x => x = w.heap.size) w4 (w4.setCell ⟨w.heap.size, 0, none⟩ (.int .u64 i)) := Fr.setCell _ _ _ rfl
      generalize w4.setCell ⟨w.heap.size, 0, none⟩ (.int .u64 i) = w5 at *
      refine ⟨⟨_, by rw [a5.cell]; rfl⟩, a5.frozen 1, ?_⟩
      have a6 := a5.set 1 (.slice p (L i f).length c)
      have f6 : Fr (fun x => x = w.heap.size) w5 (w5.setCell ⟨w.heap.size, 1, none⟩ (.slice p (L i f).length c)) := Fr.setCell _ _ _ rfl
      generalize w5.setCell ⟨w.heap.size, 1, none⟩ (.slice p (L i f).length c) = w6 at *
      simp only [LoadT_int, LoadT_slice, a6.cell]
      refine ⟨i, rfl, _, _, _, rfl, ?_⟩
      have hne : ∀ x, bl p x → ¬ x = w.heap.size := fun x hx e => by have := hp x hx; omega
      exact hk p c w6 ((own.fr f5 hne).fr f6 hne) ((f4.trans f5 fun x e => .inr (by omega)).trans f6 fun x e => .inr (by omega)) fun x hx => by have := hp x hx; omega
  · refine ⟨rfl, rfl, rfl, 0, 0, none, rfl, by omega, f03, hs3, a3, o3, Own.nil _ _, fun x ⟨a, e, _⟩ => by cases e⟩
end Go.Proofs.YtopdlfecfgimpaaDoor.E
