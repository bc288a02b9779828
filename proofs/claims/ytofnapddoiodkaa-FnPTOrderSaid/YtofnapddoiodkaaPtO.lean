/-
  Plus trees: inner nodes that are split; what a split leaves, in plain words.
-/
import Derived.Test.YtofnapddoiodkaaPtN
namespace Go.Proofs.Ytofnapddoiodkaa.E
open Go
set_option linter.unusedSimpArgs false
set_option linter.unusedVariables false
set_option maxRecDepth 100000
set_option maxHeartbeats 4000000

section
variable {w : World} {S : Nat}
theorem back_ss {f : Option Addr → Nat → Nat → Option Addr → Nat → Nat → W} {p p' : Option Addr} {l c l' c' : Nat} (h : f p l c p' l' c' w) : Back (.tup [(.one .slice), (.one .slice)]) f (.returned (.tuple #[.slice p l c, .slice p' l' c'])) w := ⟨((p, l, c), (p', l', c'), ()), rfl, h⟩
theorem F55_spec {k : Value → W} {r l c i : Nat} {vs : List Value} (hO : Own w 62 (some ⟨r, 0, none⟩) l c vs) (hi : i ≤ l) (hlc : l ≤ c) (hic : i < c) (hc : c ≤ 4294967296) (h1 : ∀ v ∈ vs, v.oneCell' = true)
    (hk : ∀ w' r1 r2, Own w' 62 (some ⟨r1, 0, none⟩) i c (vs.take i) → Own w' 62 (some ⟨r2, 0, none⟩) (l - i) c (vs.drop i) → w.heap.size ≤ r1 → w.heap.size ≤ r2 → r1 ≠ r2 → Fr (fun _ => False) w w' →
      k (.tuple #[.slice (some ⟨r1, 0, none⟩) i c, .slice (some ⟨r2, 0, none⟩) (l - i) c]) w') : F55 k (some ⟨r, 0, none⟩) l c ((i : Nat) : Int) w := by
  have hmx : c ≤ maxLen := by simp only [maxLen]; omega
  have hr := hO.lt (b := r) ⟨_, rfl, rfl⟩
  unfold F55
  refine mk62 i c hc (by omega) fun q w1 eq f1 o1 b1 z1 => ?_
  rw [subI_i64 (by omega) (by omega), show ((l : Nat) : Int) - ((i : Nat) : Int) = ((l - i : Nat) : Int) by omega]
  refine mk62 (l - i) c hc (by omega) fun q' w2 eq' f2 o2 b2 z2 => ?_
  have b1 := b1.fr f2 id
  have hO2 := (hO.fr f1 fun _ _ => id).fr f2 fun _ _ => id
  refine ⟨by omega, ?_⟩
  rw [sliceA0, Int.toNat_natCast, Nat.sub_zero]
  refine cpy_own und86 hsz62 b1 hO2 (Nat.le_refl _) (by omega) (by omega) hmx h1 fun w3 o3 f3 z3 => ?_
  have b2 := b2.fr f3 (show ¬ q' = q by omega)
  have hO3 := hO2.fr f3 fun b hb => by rw [bl_q.1 hb]; show ¬ r = q; omega
  refine ⟨by omega, ?_⟩
  rw [sliceAi hic]
  refine cpy_own und86 hsz62 b2 hO3 (Nat.le_refl _) (by omega) (by omega) hmx h1 fun w4 o4 f4 z4 => ?_
  have o3 := o3.fr f4 fun b hb => by rw [bl_q.1 hb]; show ¬ q = q'; omega
  rw [List.drop_zero] at o3
  have hl := hO.1
  rw [List.take_of_length_le (by simp; omega)] at o4
  refine hk w4 q q' o3 o4 (by omega) (by omega) (by omega) ?_
  refine ((f1.trans f2 fun _ h => h.elim).trans f3 fun b hb => .inr ?_).trans f4 fun b hb => .inr ?_
  · have hb : b = q := hb; omega
  · have hb : b = q' := hb; omega
theorem F54_spec {k : Value → W} {d : Nd} {vs : List Value} {m : KV} (h : NdM w S d vs) (h3 : 3 ≤ d.ks.length) (hl : d.ks.length ≤ S) (hv : vs.length = d.ks.length + 1) (hS : S < 4294967296) (hm : d.ks[d.ks.length / 2]? = some m) (h1 : ∀ v ∈ vs, v.oneCell' = true)
    (hk : ∀ w' b q q' r r', NdM w' S ⟨b, q, r, d.ks.take (d.ks.length / 2)⟩ (vs.take (d.ks.length / 2 + 1)) → NdM w' S ⟨d.b, q', r', d.ks.drop (d.ks.length / 2 + 1)⟩ (vs.drop (d.ks.length / 2 + 1)) →
      w.heap.size ≤ b → w.heap.size ≤ q → w.heap.size ≤ q' → w.heap.size ≤ r → w.heap.size ≤ r' → [b, q, r, d.b, q', r'].Nodup → Fr (fun b => b = d.b) w w' →
      k (.tuple #[kv m, .iface 83 (.pointer (some ⟨b, 0, none⟩)), .iface 83 (.pointer (some ⟨d.b, 0, none⟩))]) w') : F54 k (some ⟨d.b, 0, none⟩) w := by
  have hmx : S ≤ maxLen := by simp only [maxLen]; omega
  have hlt := h.a.lt
  have hqlt := h.q.lt (b := d.q) ⟨_, rfl, rfl⟩
  have hrlt := h.r.lt (b := d.r) ⟨_, rfl, rfl⟩
  unfold F54
  rw [NN_mk]
  refine load_slice (i := 0) h.a rfl ?_
  rw [decide_eq_false (show ¬ ((d.ks.length : Nat) : Int) < 3 by omega), BIf_false, NN_mk]
  refine load_slice (i := 0) h.a rfl ⟨by omega, bind_intro ?_⟩
  rw [half (by omega), NN_mk]
  generalize hi : d.ks.length / 2 = i at *
  refine load_slice (i := 0) h.a rfl ?_
  rw [NN_mk, Req_iff, Int.toNat_natCast, add_mk, Nat.zero_add]
  refine ⟨by omega, LoadT_any.2 ⟨kv m, by rw [h.q.cell (by omega), kvs_get, hm]; rfl, ?_⟩⟩
  refine drw_intro fun w1 f1 z1 => ?_
  have h' := h.fr f1 id id id
  rw [NN_mk]
  refine load_slice (i := 0) h'.a rfl ?_
  rw [NN_mk]
  refine load_slice (i := 0) h'.a rfl ?_
  rw [subI_i64 (a := (d.ks.length : Int)) (by omega) (by omega), subI_i64 (by omega) (by omega), show ((d.ks.length : Nat) : Int) - ((i : Nat) : Int) - 1 = ((d.ks.length - i - 1 : Nat) : Int) by omega]
  refine mk48 (d.ks.length - i - 1) S (by omega) (by omega) fun q' w2 eq' f2 o2 b2 z2 => ?_
  have h' := h'.fr f2 id id id
  refine chk (i := 0) h'.a rfl (chk (i := 0) h'.a rfl ?_)
  rw [NN_mk]
  refine load_slice (i := 0) h'.a rfl ?_
  refine mk48 i S (by omega) (by omega) fun q w3 eq f3 o3 b3 z3 => ?_
  have h' := h'.fr f3 id id id
  have b2 := b2.fr f3 id
  have f03 := (f1.trans f2 fun _ h => h.elim).trans f3 fun _ h => h.elim
  rw [NN_mk]
  refine load_slice (i := 0) h'.a rfl ?_
  rw [addI_i64 (by omega) (by omega), show ((i : Nat) : Int) + 1 = ((i + 1 : Nat) : Int) by omega, Int.toNat_natCast]
  refine ⟨by omega, ?_⟩
  rw [sliceAi (by omega)]
  refine cpy_own und76 hsz48 b2 h'.q (by omega) (by omega) (by omega) hmx (kvs_one _) fun w4 o4 f4 z4 => ?_
  have h' := h'.fr f4 (show ¬ d.b = q' by omega) (show ¬ d.q = q' by omega) (show ¬ d.r = q' by omega)
  have b3 := b3.fr f4 (show ¬ q = q' by omega)
  rw [NN_mk]
  refine load_slice (i := 0) h'.a rfl ⟨by omega, ?_⟩
  rw [sliceA0, Nat.sub_zero]
  refine cpy_own und76 hsz48 b3 h'.q (Nat.le_refl _) (by omega) (by omega) hmx (kvs_one _) fun w5 o5 f5 z5 => ?_
  have h' := h'.fr f5 (show ¬ d.b = q by omega) (show ¬ d.q = q by omega) (show ¬ d.r = q by omega)
  have o4 := o4.fr f5 fun b hb => by rw [bl_q.1 hb]; show ¬ q' = q; omega
  rw [NN_mk]
  refine load_slice (i := 1) h'.a rfl ?_
  have hz05 : w5.heap.size = w.heap.size + 2 := by omega
  refine F55_call (F55_spec h'.r (by omega) (by omega) (by omega) (by omega) h1 fun w6 r r' o6 p6 hr hr' hrr f6 => back_ss ?_)
  have hr6 := o6.lt (b := r) ⟨_, rfl, rfl⟩
  have hr6' := p6.lt (b := r') ⟨_, rfl, rfl⟩
  have h' := h'.fr f6 id id id
  have o4 := o4.fr f6 fun _ _ => id
  have o5 := o5.fr f6 fun _ _ => id
  refine new_intro fun nb w7 e7 b7 f7 z7 => ?_
  have h' := h'.fr f7 id id id
  have o4 := o4.fr f7 fun _ _ => id
  have o5 := o5.fr f7 fun _ _ => id
  have o6 := o6.fr f7 fun _ _ => id
  have p6 := p6.fr f7 fun _ _ => id
  have hz6 := f6.size
  rw [NN_mk]
  refine store_intro (i := 0) h'.a (by simp) rfl fun w8 b8 f8 z8 => ?_
  rw [NN_mk]
  refine store_intro (i := 1) b8 (by simp) rfl fun w9 b9 f9 z9 => ?_
  have f79 : Fr (fun b => b = d.b) w7 w9 := f8.trans f9 fun b hb => .inl hb
  have b7 := b7.fr f79 (show ¬ nb = d.b by omega)
  have o4 := o4.fr f79 fun b hb => by rw [bl_q.1 hb]; show ¬ q' = d.b; omega
  have o5 := o5.fr f79 fun b hb => by rw [bl_q.1 hb]; show ¬ q = d.b; omega
  have o6 := o6.fr f79 fun b hb => by rw [bl_q.1 hb]; show ¬ r = d.b; omega
  have p6 := p6.fr f79 fun b hb => by rw [bl_q.1 hb]; show ¬ r' = d.b; omega
  rw [List.drop_zero, kvs_take] at o5
  rw [kvs_drop, kvs_take, List.take_of_length_le (by simp; omega)] at o4
  have el : (d.ks.take i).length = i := by simp; omega
  have er : (d.ks.drop (i + 1)).length = d.ks.length - i - 1 := by simp; omega
  have vl : (vs.take (i + 1)).length = i + 1 := by simp; omega
  have vr : (vs.drop (i + 1)).length = vs.length - (i + 1) := by simp
  refine hk w9 nb q q' r r' ⟨?_, ?_, ?_⟩ ⟨?_, ?_, ?_⟩ (by omega) (by omega) (by omega) (by omega) (by omega) ?_ ?_
  · rw [el, vl]; exact b7
  · rw [el]; exact o5
  · rw [vl]; exact o6
  · rw [er, vr]; exact b9
  · rw [er]; exact o4
  · rw [vr]; exact p6
  · simp only [List.nodup_cons, List.mem_cons, List.not_mem_nil, or_false, not_false_eq_true, List.nodup_nil, and_true, not_or]
    omega
  · refine (((((f03.mono fun _ h => h.elim).trans f4 fun b hb => .inr ?_).trans f5 fun b hb => .inr ?_).trans f6 fun _ h => h.elim).trans f7 fun _ h => h.elim).trans f79 fun b hb => .inl hb
    · have hb : b = q' := hb; omega
    · have hb : b = q := hb; omega
end
end Go.Proofs.Ytofnapddoiodkaa.E
