/-
  Plus trees: a new one; what is found.
-/
import Derived.Test.YtofnapddoiodkaaPtU
namespace Go.Proofs.Ytofnapddoiodkaa.E
open Go
set_option linter.unusedSimpArgs false
set_option linter.unusedVariables false
set_option maxRecDepth 100000
set_option maxHeartbeats 4000000

section
variable {w : World} {S : Nat}
/-- New. -/
theorem F7_spec {k : Value → W} (h3 : 3 ≤ S) (hS : S < 1000) (hk : ∀ w' tb F, PTree w' tb S [] F → (∀ b, F b → w.heap.size ≤ b) → Fr (fun _ => False) w w' → k (.pointer (some ⟨tb, 0, none⟩)) w') : F7 k ((S : Nat) : Int) w := by
  unfold F7
  refine F14_call ?_
  unfold F14
  refine F18_call ?_
  unfold F18
  refine mk48 0 S (by omega) (by omega) fun q w1 e1 f1 o1 b1 z1 => ?_
  refine new_intro fun b w2 e2 b2 f2 z2 => back_ptr ?_
  refine new_intro fun tb w3 e3 b3 f3 z3 => back_ptr ?_
  have o1 : Own w1 48 (some ⟨q, 0, none⟩) 0 S [] := o1
  have o3 := (o1.fr f2 fun _ _ => id).fr f3 fun _ _ => id
  have b23 := b2.fr f3 id
  have hL : LfM w3 S ⟨b, q, none, []⟩ := ⟨b23, o3⟩
  refine hk w3 tb (fun x => x = tb ∨ x ∈ bks 0 (tl ⟨b, q, none, []⟩)) ⟨0, tl ⟨b, q, none, []⟩, ⟨b3, hL, ?_, ⟨List.Pairwise.nil, fun _ h => by cases h⟩, ?_, .inl rfl, ⟨fun _ h => (by cases h), trivial⟩, h3, hS⟩, rfl, fun _ => Iff.rfl⟩ (fun x hx => ?_) ((f1.trans f2 fun _ h => h.elim).trans f3 fun _ h => h.elim)
  · show [b, q].Nodup
    simp; omega
  · show 0 < S
    omega
  · have hx : x = tb ∨ x ∈ [b, q] := hx
    simp only [List.mem_cons, List.not_mem_nil, or_false] at hx
    rcases hx with rfl | rfl | rfl <;> omega
theorem F13_spec {k : Value → W} {tb : Nat} {L : List KV} {F : Nat → Prop} (h : PTree w tb S L F) (hk : k (.int .u64 ((L.length : Nat) : Int)) w) : F13 k (some ⟨tb, 0, none⟩) w := by
  obtain ⟨n, t, h, e, hF⟩ := h
  unfold F13
  rw [NN_mk]
  refine load_int (i := 2) h.hd rfl ?_
  rw [e]; exact hk

/-! ## What is found -/
def itv (L : Lf) (k : Int) : List Value :=
  if pos k L.ks = L.ks.length then (match L.p with | none => [.pointer none, .int .i64 (-2)] | some p => [.pointer (some ⟨p, 0, none⟩), .int .i64 (-1)])
  else [.pointer (some ⟨L.b, 0, none⟩), .int .i64 (((pos k L.ks : Nat) : Int) - 1)]
theorem F46_spec {k : Value → W} {l : Lf} {x : KV} (h : LfM w S l) (s : Srt l.ks) (hl : l.ks.length < 4294967296) (hk : ∀ w' it, Blk w' it 75 (itv l x.1) → w.heap.size ≤ it → Fr (fun _ => False) w w' → k (.pointer (some ⟨it, 0, none⟩)) w') : F46 k (some ⟨l.b, 0, none⟩) (kv x) w := by
  unfold F46
  refine F48_call ?_
  unfold F48
  rw [NN_mk]
  refine load_slice (i := 1) h.a rfl ?_
  refine F28_call (F28_spec h.q s hl fun w1 f1 => back_int (back_int ?_))
  have h1 := h.fr f1 id id
  have hz := f1.size
  rw [NN_mk]
  refine load_slice (i := 1) h1.a rfl ?_
  have hpl := pos_le x.1 l.ks
  by_cases hp : pos x.1 l.ks = l.ks.length
  · rw [show (((pos x.1 l.ks : Nat) : Int) == ((l.ks.length : Nat) : Int)) = true by rw [beq_iff_eq]; omega, BIf_true, NN_mk]
    refine load_ptr (i := 0) h1.a rfl ?_
    cases hlp : l.p with
    | none =>
      simp only [oA_none, Option.isNone_none, BIf_true]
      refine F17_call ?_
      unfold F17
      refine new_intro fun it w2 e2 b2 f2 z2 => back_ptr ?_
      refine hk w2 it ?_ (by omega) (f1.trans f2 fun _ h => h.elim)
      unfold itv
      rw [if_pos hp, hlp]; exact b2
    | some p =>
      simp only [oA_some, Option.isNone_some, BIf_false]
      rw [NN_mk]
      have ha := h1.a
      rw [hlp] at ha
      refine load_ptr (i := 0) ha rfl ?_
      refine new_intro fun it w2 e2 b2 f2 z2 => ?_
      refine hk w2 it ?_ (by omega) (f1.trans f2 fun _ h => h.elim)
      unfold itv
      rw [if_pos hp, hlp]; exact b2
  · rw [show (((pos x.1 l.ks : Nat) : Int) == ((l.ks.length : Nat) : Int)) = false by rw [beq_eq_false_iff_ne]; omega, BIf_false, subI_i64 (by omega) (by omega)]
    refine new_intro fun it w2 e2 b2 f2 z2 => ?_
    refine hk w2 it ?_ (by omega) (f1.trans f2 fun _ h => h.elim)
    unfold itv
    rw [if_neg hp]; exact b2
end
theorem find_spec {S : Nat} {x : KV} (hS : S < 4000000000) : ∀ {n : Nat} {t : Tr n} {lo hi : Option Int} {f : Option Addr → W} {w : World}, Mm w S n t → In n lo hi t → Sm S n t → geB lo x.1 → ltB hi x.1 →
    (∀ w' it L A B, lfs n t = A ++ L :: B → (∀ y ∈ A.flatMap Lf.ks, y.1 < x.1) → (∀ y ∈ B.flatMap Lf.ks, x.1 < y.1) → Srt L.ks → Blk w' it 75 (itv L x.1) → w.heap.size ≤ it → Fr (fun _ => False) w w' → f (some ⟨it, 0, none⟩) w') →
    NextT Try.prog (callMethod (ref n t) "given.example/pub-spokeshave/pub/godatastructures/btree/plus.find" [kv x].toArray) (.s (.one .ptr)) f w
  | 0, l, lo, hi, f, w, hM, hIn, hs, g1, g2, hf => by
    have hL : LfM w S l := hM
    have hs : (Lf.ks l).length < S := hs
    have hIn' := (show Srt (Lf.ks l) ∧ ∀ x ∈ Lf.ks l, geB lo x.1 ∧ ltB hi x.1 from hIn)
    refine NextT_enter (meth_f68 _ _ w) (F46_calls (F46_spec hL hIn'.1 (by omega) fun w' it hB hit f' => back_ptr ?_))
    exact hf w' it l [] [] rfl (fun _ h => by cases h) (fun _ h => by cases h) hIn'.1 hB hit f'
  | n + 1, (d, cs), lo, hi, f, w, hM, hIn, hs, g1, g2, hf => by
    have hCh : Ch (In n) lo hi d.ks cs := hIn
    obtain ⟨hks, _⟩ := hCh.keys
    have hcl := hCh.len
    have hs1 : d.ks.length < S := hs.1
    obtain ⟨A, c, B, lo', hi', rfl, hAl, hIc, c1, c2, hA, hB, _⟩ := hCh.at (k := x.1) (E := els n) (fun l h a ha => In.els ha) g1 g2
    have hAl : A.length = kidx x.1 d.ks := hAl
    obtain ⟨hN, hC⟩ := hM
    have hN : NdM w S d ((A ++ c :: B).map (ref n)) := hN
    have hC : ∀ y ∈ A ++ c :: B, Mm w S n y := hC
    have hcm : c ∈ A ++ c :: B := by simp
    have hsC : Sm S n c := hs.2 c hcm
    have hml : ((A ++ c :: B).map (ref n)).length = d.ks.length + 1 := by rw [List.length_map]; exact hcl
    have hget : ((A ++ c :: B).map (ref n))[A.length]? = some (ref n c) := by rw [List.getElem?_map, mid_get]; rfl
    have fin : ∀ (g : Option Addr → W) w1, Fr (fun _ => False) w w1 → (∀ p w2, Fr (fun _ => False) w1 w2 → f p w2 → g p w2) →
        NextT Try.prog (callMethod (ref n c) "given.example/pub-spokeshave/pub/godatastructures/btree/plus.find" [kv x].toArray) (.s (.one .ptr)) g w1 := fun g w1 f1 hg => by
      refine find_spec hS ((hC c hcm).fr0 f1) hIc hsC c1 c2 fun w2 it L A' B' he h1 h2 hsL hB2 hit f2 => hg _ w2 f2 ?_
      refine hf w2 it L (A.flatMap (lfs n) ++ A') (B' ++ B.flatMap (lfs n)) ?_ (fun y hy => ?_) (fun y hy => ?_) hsL hB2 (by have := f1.size; omega) (f1.trans f2 fun _ h => h.elim)
      · rw [lfs_mid, he]; simp
      · rw [List.flatMap_append] at hy
        rcases List.mem_append.1 hy with h | h
        · rw [List.flatMap_assoc] at h
          obtain ⟨a, ha, h⟩ := List.mem_flatMap.1 h
          exact hA a ha y h
        · exact h1 y h
      · rw [List.flatMap_append] at hy
        rcases List.mem_append.1 hy with h | h
        · exact h2 y h
        · rw [List.flatMap_assoc] at h
          obtain ⟨a, ha, h⟩ := List.mem_flatMap.1 h
          exact hB a ha y h
    refine NextT_enter (meth_f83 _ _ w) (F51_calls ?_)
    unfold F51
    refine F26_call (F26_spec (d := d) hN hks (by omega) fun w1 f1 => back_int ?_)
    have hN1 := hN.fr f1 id id id
    rw [NN_mk]
    refine load_slice (i := 0) hN1.a rfl ?_
    have hpl := pos_le x.1 d.ks
    rcases kidx_cases (q := x) hks with ⟨e1, e2⟩ | ⟨y, hy, e1, e2⟩ | ⟨y, hy, e1, e2⟩
    · rw [e1, show (((d.ks.length : Nat) : Int) == ((d.ks.length : Nat) : Int)) = true from beq_self_eq_true _, BIf_true]
      refine drw_intro fun w2 f2 z2 => ?_
      have hN2 := hN1.fr f2 id id id
      rw [NN_mk]
      refine load_slice (i := 1) hN2.a rfl ?_
      rw [NN_mk]
      refine load_slice (i := 1) hN2.a rfl ?_
      rw [hml, subI_i64 (by omega) (by omega), show ((d.ks.length + 1 : Nat) : Int) - 1 = ((d.ks.length : Nat) : Int) by omega, NN_mk, Req_iff, Int.toNat_natCast, add_mk, Nat.zero_add]
      refine ⟨by omega, LoadT_any.2 ⟨ref n c, ?_, fin _ w2 (f1.trans f2 fun _ h => h.elim) fun p w3 f3 hp => ?_⟩⟩
      · rw [hN2.r.cell (by omega), ← e2, ← hAl]; exact hget
      · have hN3 := hN2.fr f3 id id id
        have ha := hN3.a
        rw [hml] at ha
        exact chk (i := 1) ha rfl (chk (i := 1) ha rfl (back_ptr hp))
    · have hlt : pos x.1 d.ks < d.ks.length := (List.getElem?_eq_some_iff.1 hy).1
      rw [show (((pos x.1 d.ks : Nat) : Int) == ((d.ks.length : Nat) : Int)) = false by rw [beq_eq_false_iff_ne]; omega, BIf_false, NN_mk]
      refine load_slice (i := 0) hN1.a rfl ?_
      rw [NN_mk, Req_iff, Int.toNat_natCast, add_mk, Nat.zero_add]
      refine ⟨by omega, LoadT_any.2 ⟨kv y, by rw [hN1.q.cell hlt, kvs_get, hy]; rfl, ?_⟩⟩
      refine cmpK fun w2 f2 => ?_
      have hN2 := hN1.fr f2 id id id
      have ec : cmpI y.1 x.1 = 0 := by unfold cmpI; rw [if_neg (by omega), if_neg (by omega)]
      rw [ec, show ((0 : Int) == 0) = true from rfl, BIf_true]
      unfold F51_J1
      rw [BIf_true, NN_mk]
      refine load_slice (i := 1) hN2.a rfl ?_
      rw [addI_i64 (by omega) (by omega), show ((pos x.1 d.ks : Nat) : Int) + 1 = ((pos x.1 d.ks + 1 : Nat) : Int) by omega, NN_mk, Req_iff, Int.toNat_natCast, add_mk, Nat.zero_add]
      refine ⟨by omega, LoadT_any.2 ⟨ref n c, ?_, fin _ w2 (f1.trans f2 fun _ h => h.elim) fun p w3 f3 hp => back_ptr hp⟩⟩
      rw [hN2.r.cell (by omega), ← e2, ← hAl]; exact hget
    · have hlt : pos x.1 d.ks < d.ks.length := (List.getElem?_eq_some_iff.1 hy).1
      rw [show (((pos x.1 d.ks : Nat) : Int) == ((d.ks.length : Nat) : Int)) = false by rw [beq_eq_false_iff_ne]; omega, BIf_false, NN_mk]
      refine load_slice (i := 0) hN1.a rfl ?_
      rw [NN_mk, Req_iff, Int.toNat_natCast, add_mk, Nat.zero_add]
      refine ⟨by omega, LoadT_any.2 ⟨kv y, by rw [hN1.q.cell hlt, kvs_get, hy]; rfl, ?_⟩⟩
      refine cmpK fun w2 f2 => ?_
      have hN2 := hN1.fr f2 id id id
      have ec : cmpI y.1 x.1 = -1 := by unfold cmpI; rw [if_pos (by omega)]
      rw [ec, show ((-1 : Int) == 0) = false from rfl, BIf_false]
      unfold F51_J1
      rw [show ((-1 : Int) == 1) = false from rfl, BIf_false, NN_mk]
      refine load_slice (i := 1) hN2.a rfl ?_
      rw [NN_mk, Req_iff, add_mk, Nat.zero_add]
      refine ⟨by omega, LoadT_any.2 ⟨ref n c, ?_, fin _ w2 (f1.trans f2 fun _ h => h.elim) fun p w3 f3 hp => back_ptr hp⟩⟩
      rw [hN2.r.cell (by omega), ← e2, ← hAl]; exact hget

/-! ## The iterator, as far as get asks it -/
theorem F21_end {k : Value → W} {w : World} {it : Nat} {p : Option Addr} (h : Blk w it 75 [.pointer p, .int .i64 (-2)]) (hk : k (.bool false) w) : F21 k (some ⟨it, 0, none⟩) w := by
  unfold F21
  rw [NN_mk]
  refine load_int (i := 1) h rfl ?_
  rw [show ((-2 : Int) == -2) = true from rfl, BIf_true]
  exact hk
theorem F21_next {k : Value → W} {w : World} {S it j : Nat} {L : Lf} (h : Blk w it 75 [.pointer (some ⟨L.b, 0, none⟩), .int .i64 (((j : Nat) : Int) - 1)]) (hL : LfM w S L) (hj : j < L.ks.length) (hl : L.ks.length < 4294967296)
    (hk : ∀ w', Blk w' it 75 [.pointer (some ⟨L.b, 0, none⟩), .int .i64 ((j : Nat) : Int)] → Fr (fun b => b = it) w w' → k (.bool true) w') : F21 k (some ⟨it, 0, none⟩) w := by
  have hne : L.b ≠ it := fun e => by
    have := hL.a
    rw [e] at this
    exact absurd (this.unique h).1 (by decide)
  unfold F21
  rw [NN_mk]
  refine load_int (i := 1) h rfl ?_
  rw [show ((((j : Nat) : Int) - 1) == -2) = false by rw [beq_eq_false_iff_ne]; omega, BIf_false, NN_mk]
  refine load_int (i := 1) h rfl ?_
  refine store_intro (i := 1) h (by simp) rfl fun w1 b1 f1 z1 => ?_
  rw [addI_i64 (by omega) (by omega), show ((j : Nat) : Int) - 1 + 1 = ((j : Nat) : Int) by omega] at b1
  have b1 : Blk w1 it 75 [.pointer (some ⟨L.b, 0, none⟩), .int .i64 ((j : Nat) : Int)] := b1
  refine drw_intro fun w2 f2 z2 => ?_
  have b2 := b1.fr f2 id
  have f02 := f1.trans f2 fun _ h => h.elim
  have ha := hL.a.fr f02 hne
  rw [NN_mk]
  refine load_int (i := 1) b2 rfl ?_
  rw [NN_mk]
  refine load_ptr (i := 0) b2 rfl ?_
  rw [NN_mk]
  refine load_slice (i := 1) ha rfl ?_
  rw [decide_eq_false (show ¬ ((j : Nat) : Int) ≥ ((L.ks.length : Nat) : Int) by omega), BIf_false]
  exact hk w2 b2 f02
theorem F22_spec {k : Value → W} {w : World} {S it j : Nat} {L : Lf} {y : KV} (h : Blk w it 75 [.pointer (some ⟨L.b, 0, none⟩), .int .i64 ((j : Nat) : Int)]) (hL : LfM w S L) (hj : L.ks[j]? = some y) (hl : L.ks.length < 4294967296)
    (hk : ∀ w', Fr (fun _ => False) w w' → k (kv y) w') : F22 k (some ⟨it, 0, none⟩) w := by
  have hlt := (List.getElem?_eq_some_iff.1 hj).1
  unfold F22
  refine drw_intro fun w1 f1 z1 => ?_
  have h1 := h.fr f1 id
  have hL1 := hL.fr f1 id id
  rw [NN_mk]
  refine load_int (i := 1) h1 rfl ?_
  rw [show (((j : Nat) : Int) == -2) = false by rw [beq_eq_false_iff_ne]; omega, BIf_false, NN_mk]
  refine load_int (i := 1) h1 rfl ?_
  rw [decide_eq_false (show ¬ ((j : Nat) : Int) < 0 by omega), BIf_false, NN_mk]
  refine load_int (i := 1) h1 rfl ?_
  rw [NN_mk]
  refine load_ptr (i := 0) h1 rfl ?_
  rw [NN_mk]
  refine load_slice (i := 1) hL1.a rfl ?_
  rw [decide_eq_false (show ¬ ((j : Nat) : Int) ≥ ((L.ks.length : Nat) : Int) by omega), BIf_false]
  refine drw_intro fun w2 f2 z2 => ?_
  have h2 := h1.fr f2 id
  have hL2 := hL1.fr f2 id id
  rw [NN_mk]
  refine load_ptr (i := 0) h2 rfl ?_
  rw [NN_mk]
  refine load_slice (i := 1) hL2.a rfl ?_
  rw [NN_mk]
  refine load_int (i := 1) h2 rfl ?_
  rw [NN_mk, Req_iff, Int.toNat_natCast, add_mk, Nat.zero_add]
  refine ⟨by omega, LoadT_any.2 ⟨kv y, by rw [hL2.q.cell hlt, kvs_get, hj]; rfl, hk w2 (f1.trans f2 fun _ h => h.elim)⟩⟩

/-! ## Get -/
def look (k : Int) (L : List KV) : Option KV := L.find? fun y => decide (y.1 = k)
def encO : Option KV → Value
  | none => .nilIface
  | some y => kv y
theorem look_none {k : Int} {L : List KV} (h : ∀ y ∈ L, y.1 ≠ k) : look k L = none := by
  unfold look
  rw [List.find?_eq_none]
  intro y hy
  simpa using h y hy
theorem look_some {k : Int} {L : List KV} {y : KV} (s : Srt L) (hy : y ∈ L) (h : y.1 = k) : look k L = some y := by
  unfold look
  cases hf : L.find? fun y => decide (y.1 = k) with
  | none =>
    rw [List.find?_eq_none] at hf
    exact absurd (by simpa using h) (hf y hy)
  | some z =>
    have h1 := List.find?_some hf
    have h2 := List.mem_of_find?_eq_some hf
    have h1 : z.1 = k := by simpa using h1
    obtain ⟨i, hi⟩ := List.mem_iff_getElem?.1 hy
    obtain ⟨j, hj⟩ := List.mem_iff_getElem?.1 h2
    rcases Nat.lt_trichotomy i j with g | g | g
    · have := srt_lt s hi hj g; omega
    · subst g; rw [hi] at hj; exact hj.symm
    · have := srt_lt s hj hi g; omega
theorem Mm.leaf {w : World} {S : Nat} : ∀ {n : Nat} {t : Tr n}, Mm w S n t → ∀ L ∈ lfs n t, LfM w S L
  | 0, l, h, L, hL => by
    have hL : L ∈ [(show Lf from l)] := hL
    rw [List.mem_singleton] at hL
    subst hL; exact h
  | n + 1, t, h, L, hL => by
    obtain ⟨c, hc, hL⟩ := List.mem_flatMap.1 (show L ∈ t.2.flatMap (lfs n) from hL)
    exact Mm.leaf (h.2 c hc) L hL
theorem Sm.leaf {S : Nat} : ∀ {n : Nat} {t : Tr n}, Sm S n t → ∀ L ∈ lfs n t, L.ks.length < S
  | 0, l, h, L, hL => by
    have hL : L ∈ [(show Lf from l)] := hL
    rw [List.mem_singleton] at hL
    subst hL; exact h
  | n + 1, t, h, L, hL => by
    obtain ⟨c, hc, hL⟩ := List.mem_flatMap.1 (show L ∈ t.2.flatMap (lfs n) from hL)
    exact Sm.leaf (h.2 c hc) L hL
theorem F16_spec {k : Value → W} {w : World} {S tb : Nat} {L : List KV} {F : Nat → Prop} {x : KV} (h : PTree w tb S L F) (hk : ∀ w', Fr (fun _ => False) w w' → k (encO (look x.1 L)) w') : F16 k (some ⟨tb, 0, none⟩) (kv x) w := by
  obtain ⟨n, t, h, e, hF⟩ := h
  have hS := h.Sl
  unfold F16
  rw [NN_mk]
  refine load_any (i := 0) h.hd rfl ?_
  refine find_spec (by omega) h.mm h.inn h.sm (geB_none _) (ltB_none _) fun w1 it l A B he hA hB hsl hit hitn f1 => ?_
  have hmm := h.mm.fr0 f1
  have hlm : l ∈ lfs n t := by rw [he]; simp
  have hLl := h.sm.leaf l hlm
  have hLM := hmm.leaf l hlm
  have hels : ∀ y, y ∈ L → y.1 = x.1 → y ∈ l.ks := fun y hy ey => by
    rw [← e, show els n t = (lfs n t).flatMap Lf.ks from rfl, he, List.flatMap_append, List.flatMap_cons] at hy
    rcases List.mem_append.1 hy with h | h
    · have := hA y h; omega
    · rcases List.mem_append.1 h with h | h
      · exact h
      · have := hB y h; omega
  have hsub : ∀ y ∈ l.ks, y ∈ L := fun y hy => by
    rw [← e, show els n t = (lfs n t).flatMap Lf.ks from rfl, he, List.flatMap_append, List.flatMap_cons]; simp [hy]
  have hL0 : Srt L := by rw [← e]; exact h.inn.srt
  obtain ⟨_, hp⟩ := pos_cases (q := x) hsl
  unfold itv at hit
  by_cases hpe : pos x.1 l.ks = l.ks.length
  · rw [if_pos hpe] at hit
    have hnone : look x.1 L = none := by
      refine look_none fun y hy ey => ?_
      have := hels y hy ey
      rcases hp with ⟨_, hlt, _⟩ | ⟨y, hy, _⟩ | ⟨y, hy, _⟩
      · have := hlt y this; omega
      · have := (List.getElem?_eq_some_iff.1 hy).1; omega
      · have := (List.getElem?_eq_some_iff.1 hy).1; omega
    rw [hnone] at hk
    cases hlp : l.p with
    | none =>
      rw [hlp] at hit
      refine F21_call (F21_end hit (back_bool ?_))
      rw [Bool.not_false, BIf_true]
      exact hk w1 f1
    | some p =>
      rw [hlp] at hit
      have hfw := h.fw
      rw [he, Fw.app] at hfw
      have hpB := hfw.2.1 p hlp
      rw [List.append_nil] at hpB
      obtain ⟨M, hMB, rfl⟩ := List.mem_map.1 hpB
      have hMl : M ∈ lfs n t := by rw [he]; simp [hMB]
      have hMM := hmm.leaf M hMl
      have hn0 : n ≠ 0 := by
        rintro rfl
        have := congrArg List.length he
        have h1 : (lfs 0 t).length = 1 := rfl
        have h2 : 0 < B.length := List.length_pos_of_mem hMB
        rw [h1, List.length_append, List.length_cons] at this
        omega
      have hMne := (h.ne.resolve_left hn0) M hMl
      have hMlen : 0 < M.ks.length := List.length_pos_iff.2 hMne
      have hy : M.ks[0]? = some (M.ks[0]'hMlen) := List.getElem?_eq_getElem hMlen
      have hyg : x.1 < (M.ks[0]'hMlen).1 := hB _ (List.mem_flatMap.2 ⟨M, hMB, List.getElem_mem hMlen⟩)
      have hMls := h.sm.leaf M hMl
      refine F21_call (F21_next (j := 0) hit hMM hMlen (by omega) fun w2 b2 f2 => back_bool ?_)
      rw [Bool.not_true, BIf_false]
      have hne2 : ¬ M.b = it := fun e => by
        have := hMM.a
        rw [e] at this
        exact absurd (this.unique hit).1 (by decide)
      have hneq : ¬ M.q = it := fun e => by
        obtain ⟨us, hu⟩ := hMM.q.blk'
        rw [e] at hu
        exact absurd (hu.unique hit).1 (by decide)
      have hMM2 := hMM.fr f2 hne2 hneq
      refine F22_call (F22_spec b2 hMM2 hy (by omega) fun w3 f3 => back_any ?_)
      refine cmpK fun w4 f4 => ?_
      rw [cmpI_zero, decide_eq_false (by omega), BIf_false]
      refine hk w4 (((f1.trans f2 fun b hb => .inr ?_).trans f3 fun _ h => h.elim).trans f4 fun _ h => h.elim)
      have hb : b = it := hb
      omega
  · rw [if_neg hpe] at hit
    have hpl := pos_le x.1 l.ks
    have hlt : pos x.1 l.ks < l.ks.length := by omega
    have hy : l.ks[pos x.1 l.ks]? = some (l.ks[pos x.1 l.ks]'hlt) := List.getElem?_eq_getElem hlt
    refine F21_call (F21_next hit hLM hlt (by omega) fun w2 b2 f2 => back_bool ?_)
    rw [Bool.not_true, BIf_false]
    have hne2 : ¬ l.b = it := fun e => by
      have := hLM.a
      rw [e] at this
      exact absurd (this.unique hit).1 (by decide)
    have hneq : ¬ l.q = it := fun e => by
      obtain ⟨us, hu⟩ := hLM.q.blk'
      rw [e] at hu
      exact absurd (hu.unique hit).1 (by decide)
    have hLM2 := hLM.fr f2 hne2 hneq
    generalize l.ks[pos x.1 l.ks]'hlt = y at *
    refine F22_call (F22_spec b2 hLM2 hy (by omega) fun w3 f3 => back_any ?_)
    refine cmpK fun w4 f4 => ?_
    have f04 : Fr (fun _ => False) w w4 := ((f1.trans f2 fun b hb => .inr (by have hb : b = it := hb; omega)).trans f3 fun _ h => h.elim).trans f4 fun _ h => h.elim
    have f24 := f3.trans f4 fun _ h => h.elim
    rw [cmpI_zero]
    by_cases hxy : x.1 = y.1
    · rw [decide_eq_true hxy, BIf_true]
      refine F22_call (F22_spec (b2.fr f24 id) (hLM2.fr f24 id id) hy (by omega) fun w5 f5 => back_any ?_)
      have := hk w5 (f04.trans f5 fun _ h => h.elim)
      rw [look_some hL0 (hsub y (List.mem_of_getElem? hy)) hxy.symm] at this
      exact this
    · rw [decide_eq_false hxy, BIf_false]
      have := hk w4 f04
      rw [look_none (fun z hz ez => by
        have hz := hels z hz ez
        rcases hp with ⟨e, _⟩ | ⟨y', hy', e', _⟩ | ⟨y', hy', e', hn, _⟩
        · omega
        · rw [hy] at hy'; cases hy'; omega
        · exact hn z hz ez)] at this
      exact this
end Go.Proofs.Ytofnapddoiodkaa.E
