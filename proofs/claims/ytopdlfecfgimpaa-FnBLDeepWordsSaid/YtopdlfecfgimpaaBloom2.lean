/-
  Filters: more of the library's methods, and the thin package's functions on them.
-/
import Derived.Test.YtopdlfecfgimpaaBloom
namespace Go.Proofs.Ytopdlfecfgimpaa.E
open Go
set_option linter.unusedSimpArgs false
set_option linter.unusedVariables false
set_option maxRecDepth 100000

/-- TestLocations. -/
theorem F77_spec {f b q M K n c : Nat} {g : Nat → Bool} {ls : List Nat} {p : Option Addr} {k : Value → W} {w : World} (h : FM w f b q M K n g) (hM : 0 < M) (hM2 : M < 16777216) (hs : Sees w p ls) (hl : ls.length < 4294967296)
    (hk : ∀ w', Fr (fun _ => False) w w' → k (.bool (decide (∀ i, i < ls.length → g (ls.getD i 0 % M) = true))) w') : F77 k (some ⟨f, 0, none⟩) p ls.length c w := by
  unfold F77
  refine F77_L1_rule (fun f' p' l' c' i' w' => f' = some ⟨f, 0, none⟩ ∧ p' = p ∧ l' = ls.length ∧ ∃ i : Nat, i' = i ∧ i ≤ ls.length ∧ (∀ t, t < i → g (ls.getD t 0 % M) = true) ∧ Fr (fun _ => False) w w')
    (fun _ _ _ _ i' _ => ls.length - i'.toNat) ?_ ⟨rfl, rfl, rfl, 0, rfl, Nat.zero_le _, fun t ht => by omega, Fr.refl _ _⟩
  rintro f' p' l' c' i' w' ⟨rfl, rfl, rfl, i, rfl, hi, hall, fr⟩
  unfold F77_L1
  refine BIf_intro (fun hc => ?_) (fun hc => ?_)
  · have hc := of_decide_eq_true hc
    refine drw_intro fun w1 f1 z1 => ?_
    replace fr := fr.trans f1 fun _ h => h.elim
    have h1 := h.fr0 fr
    have hs1 := hs.fr0 fr
    refine load_ptr h1.head rfl ?_
    rcases hs1 with e | ⟨a, rfl, ha, hca⟩
    · rw [e] at hc; simp at hc; omega
    refine ⟨⟨by omega, by omega⟩, LoadT_int.2 ⟨_, hca i (by omega), ?_⟩⟩
    refine load_int h1.head rfl ?_
    refine ⟨by omega, ?_⟩
    have e1 : remI ((ls.getD i 0 : Nat) : Int) ((M : Nat) : Int) = ((ls.getD i 0 % M : Nat) : Int) := by rw [remI_eq (by omega)]; omega
    rw [e1]
    have hml : ls.getD i 0 % M < M := Nat.mod_lt _ hM
    refine F52_call (Test_spec h1.set (by omega) fun w2 f2 => back_bool ?_)
    have h2 := h1.fr0 f2
    have hca2 : w2.cell? (a.add ((i : Int)).toNat) = some (.int .u64 (ls.getD i 0 : Nat)) := (f2.cell (by rw [add_block]; exact ha) id).trans (hca i (by omega))
    repeat (first | refine Chk1_iff.2 ⟨by rw [h2.head.cell]; rfl, ?_⟩ | refine Chk1_iff.2 ⟨hca2, ?_⟩)
    replace fr := fr.trans f2 fun _ h => h.elim
    refine BIf_intro (fun ht => ?_) (fun ht => ?_)
    · have ht : g (ls.getD i 0 % M) = false := by simpa using ht
      rw [decide_eq_false (fun hh => by rw [hh i (by omega)] at ht; cases ht)] at hk
      exact hk _ fr
    · have ht : g (ls.getD i 0 % M) = true := by simpa using ht
      have ei : addI .i64 (i : Int) 1 = ((i + 1 : Nat) : Int) := by rw [addI_i64 (by omega) (by omega)]; omega
      rw [ei]
      refine ⟨⟨(by trivial), (by trivial), (by trivial), i + 1, rfl, by omega, fun t htt => ?_, fr⟩, by omega⟩
      by_cases e : t = i
      · rw [e]; exact ht
      · exact hall t (by omega)
  · have hc := of_decide_eq_false hc
    have : i = ls.length := by omega
    subst this
    rw [decide_eq_true hall] at hk
    exact hk _ fr
/-- The places as a list. -/
def locs (r : H4) (K : Nat) : List Nat := (List.range K).map (loc r)
@[simp] theorem locs_length (r : H4) (K : Nat) : (locs r K).length = K := by simp [locs]
theorem locs_get (r : H4) {K i : Nat} (h : i < K) : (locs r K).getD i 0 = loc r i := by simp [locs, List.getD_eq_getElem?_getD, List.getElem?_map, List.getElem?_range h]
theorem locs_hit {g : Nat → Bool} {M K : Nat} {r : H4} : decide (∀ i, i < (locs r K).length → g ((locs r K).getD i 0 % M) = true) = hit g M K r := by
  rw [Bool.eq_iff_iff, decide_eq_true_iff, hit_iff, locs_length]
  constructor
  · intro h i hi; rw [← locs_get r hi]; exact h i hi
  · intro h i hi; rw [locs_get r hi]; exact h i hi
/-- Locations. -/
theorem F74_spec {K l c : Nat} {bs : Nat → Int} {p : Option Addr} {k : Value → W} {w : World} (hK : K < 1000) (hl : l < 2147483648) (hb : TB w p l bs) (hlc : l ≤ c)
    (hk : ∀ q c' w', Sees w' (some ⟨q, 0, none⟩) (locs (hashOf l bs) K) → w.heap.size ≤ q → q < w'.heap.size → Fr (fun _ => False) w w' → k (.slice (some ⟨q, 0, none⟩) (locs (hashOf l bs) K).length c') w') : F74 k p l c K w := by
  unfold F74
  obtain ⟨ii, hi1, hi2, hi3, hi4⟩ := inf77
  refine make_intro (P := Go.Proofs.Try.prog) K K und43 hi1 hi2 hi3 rfl (by omega) (by omega) (Nat.le_refl _) fun w1 f1 o1 bq z1 => ?_
  have hq0 : w.heap.size = w.heap.size := rfl
  generalize hq : w.heap.size = q at bq z1 ⊢
  refine F101_call (F101_spec hl (hb.fr0 f1) hlc fun w2 f2 => back_h4 ?_)
  generalize hashOf l bs = r at *
  have bq2 := bq.fr f2 id
  refine new_intro fun n8 w3 e3 b8 f3 z3 => ?_
  replace bq2 := bq2.fr f3 id
  have zf2 := f2.size
  refine store_intro b8 (by simp) rfl fun w4 b8 f4 z4 => ?_
  refine store_intro b8 (by simp) rfl fun w5 b8 f5 z5 => ?_
  refine store_intro b8 (by simp) rfl fun w6 b8 f6 z6 => ?_
  refine store_intro b8 (by simp) rfl fun w7 b8 f7 z7 => ?_
  replace bq2 := (((bq2.fr f4 (show ¬ q = n8 by omega)).fr f5 (show ¬ q = n8 by omega)).fr f6 (show ¬ q = n8 by omega)).fr f7 (show ¬ q = n8 by omega)
  have fr : Fr (fun _ => False) w w7 := ((((((f1.trans f2 fun _ h => h.elim).trans f3 fun _ h => h.elim).trans f4 ?_).trans f5 ?_).trans f6 ?_).trans f7 ?_)
  rotate_left
  all_goals try (rintro x rfl; exact .inr (by omega))
  have hrep : List.replicate K (Value.int .u64 0) = us (List.replicate K 0) := by rw [us_replicate]; rfl
  rw [hrep] at bq2
  refine F74_L1_rule (fun k' p' l' c' a' i' w' => k' = (K : Int) ∧ p' = some ⟨q, 0, none⟩ ∧ l' = K ∧ a' = ⟨n8, 0, none⟩ ∧ ∃ (i : Nat) (ls : List Nat), i' = i ∧ i ≤ K ∧ ls.length = K ∧ (∀ t, t < i → ls.getD t 0 = loc r t) ∧ Blk w' q 77 (us ls) ∧
      Blk w' n8 103 [.int .u64 r.1.1, .int .u64 r.1.2, .int .u64 r.2.1, .int .u64 r.2.2] ∧ Fr (fun _ => False) w w') (fun _ _ _ _ _ i' _ => K - i'.toNat) ?_ ⟨rfl, rfl, rfl, rfl, 0, _, rfl, Nat.zero_le _, by simp, fun t ht => by omega, bq2, b8, fr⟩
  have hn8 : q < n8 := by omega
  have hbq := bq2.lt
  clear bq2 b8 fr f1 f2 f3 f4 f5 f6 f7 bq o1
  rintro k' p' l' c' a' i' w' ⟨rfl, rfl, rfl, rfl, i, ls, rfl, hi, hll, hls, bq, b8, fr⟩
  unfold F74_L1
  refine BIf_intro (fun hc => ?_) (fun hc => ?_)
  · have hc := of_decide_eq_true hc
    simp only [add_mk, Nat.zero_add, Nat.add_zero]
    refine load_int b8 rfl ?_
    refine load_int b8 rfl ?_
    refine load_int b8 rfl ?_
    refine load_int b8 rfl ?_
    refine F102_call (F102_spec (r := r) (by omega) fun w2 f2 => back_int ?_)
    replace b8 := b8.fr f2 id
    replace bq := bq.fr f2 id
    repeat (first | refine Chk1_iff.2 ⟨by rw [b8.cell]; rfl, ?_⟩)
    simp only [NN_mk, add_mk, Nat.zero_add, Int.toNat_natCast]
    refine ⟨⟨by omega, by omega⟩, ?_⟩
    refine store_intro bq (by simp; omega) rfl fun w3 bq f3 z3 => ?_
    have ei : addI .u64 (i : Int) 1 = ((i + 1 : Nat) : Int) := addI_nat (y := 1) (by omega)
    rw [ei]
    refine ⟨⟨(by trivial), (by trivial), (by trivial), (by trivial), i + 1, ls.set i (loc r i), rfl, by omega, by simp [hll], fun t ht => ?_, by rw [us_set]; exact bq, b8.fr f3 (show ¬ n8 = q by omega), (fr.trans f2 fun _ h => h.elim).trans f3 fun x (e : x = q) => .inr (by omega)⟩, by omega⟩
    rw [getD_set (by omega)]
    by_cases e : t = i
    · rw [if_pos e, e]
    · rw [if_neg e]; exact hls t (by omega)
  · have hc := of_decide_eq_false hc
    have hiK : i = l' := by omega
    subst hiK
    have e : ls = locs r i := by
      apply List.ext_getElem (by simp [hll])
      intro t h1 h2
      have e1 : ls.getD t 0 = ls[t] := by rw [List.getD_eq_getElem?_getD, List.getElem?_eq_getElem h1]; rfl
      have e2 : (locs r i).getD t 0 = (locs r i)[t] := by rw [List.getD_eq_getElem?_getD, List.getElem?_eq_getElem h2]; rfl
      rw [← e1, ← e2, hls t (by omega), locs_get r (by omega)]
    have := hk q c' w' (.inr ⟨_, rfl, bq.lt, fun t ht => by
      have ht : t < i := by simpa using ht
      rw [add_mk, Nat.zero_add, bq.cell, us_get _ _ (by omega), e]⟩) (by omega) bq.lt fr
    rw [locs_length] at this
    exact this

/-! ## Strings -/
/-- A text's bytes. -/
def IsStr (s : ByteArray) (l : Nat) (b : Nat → Int) : Prop := s.size = l ∧ ∀ i, i < l → (s.data.map (fun u => Value.int .u8 u.toNat))[i]? = some (.int .u8 (b i))
/-- A text's bytes as a slice. -/
theorem bytes_intro {s : ByteArray} {l : Nat} {b : Nat → Int} {f : Option Addr → Nat → Nat → W} {w : World} (hs : IsStr s l b)
    (hk : ∀ q c w', TB w' (some ⟨q, 0, none⟩) l b → l ≤ c → w.heap.size ≤ q → Fr (fun _ => False) w w' → f (some ⟨q, 0, none⟩) l c w') : RawT Go.Proofs.Try.prog (convert 9 44 (.string s)) (.s (.one .slice)) f w := by
  obtain ⟨hsz, hb⟩ := hs
  have hr := run_bytes_of_string (P := Go.Proofs.Try.prog) w 9 44 5 s und9 und44 und5
  rw [hsz] at hr
  have hcap : l ≤ grownCap w l 0 5 := grownCap_ge _ _ _ _
  generalize grownCap w l 0 5 = cap at *
  refine RawT_slice hr ?_
  refine hk w.heap.size cap _ (.inr ⟨_, rfl, by simp, fun i hi => ?_⟩) hcap (Nat.le_refl _) ((Fr.drew (fun _ => False) w).trans (Fr.alloc (fun _ => False) _ _) fun _ h => h.elim)
  rw [add_mk, Nat.zero_add]
  have hrow : (w.drew.alloc (.cells (bytesRow s cap) 5 ((bytesRow s cap).size, (bytesRow s cap).size + 1))).heap[w.heap.size]? = some (.cells (bytesRow s cap) 5 ((bytesRow s cap).size, (bytesRow s cap).size + 1)) := heap_alloc_new w.drew _
  rw [cell_of_row _ w.heap.size i (bytesRow s cap) 5 _ hrow]
  unfold bytesRow
  have hsz2 : s.data.size = l := hsz
  rw [Array.getElem?_append_left (by simp; omega)]
  exact hb i hi
/-- A slice of bytes as a text. -/
theorem str_intro {p : Option Addr} {l c : Nat} {b : Nat → Int} {f : ByteArray → W} {w : World} (hb : TB w p l b) (hby : ∀ i, i < l → 0 ≤ b i ∧ b i < 256) (hp : l = 0 → p = none ∨ ∃ a, p = some a)
    (hk : ∀ s, IsStr s l b → f s w) : RawT Go.Proofs.Try.prog (convert 44 9 (.slice p l c)) (.s (.one .str)) f w := by
  have mk : ∀ s, (convert 44 9 (.slice p l c)).run Go.Proofs.Try.prog w = .ok (.string s) w → IsStr s l b → RawT Go.Proofs.Try.prog (convert 44 9 (.slice p l c)) (.s (.one .str)) f w := fun s h1 h2 => ⟨(s, ()), w, h1, hk s h2⟩
  have go : ∀ a : Addr, p = some a → (∀ i, i < l → w.cell? (a.add i) = some (.int .u8 (b i))) → RawT Go.Proofs.Try.prog (convert 44 9 (.slice p l c)) (.s (.one .str)) f w := by
    rintro a rfl hc
    have hl : (loadCells a l).run Go.Proofs.Try.prog w = .ok (((List.range l).map b).map (Value.int .u8)).toArray w := by
      have := run_loadCells_list (P := Go.Proofs.Try.prog) w a (((List.range l).map b).map (Value.int .u8)) (fun j v hj => by
        have hjl : j < l := by have := (List.getElem?_eq_some_iff.1 hj).1; simpa using this
        rw [hc j hjl]
        simp [List.getElem?_map, List.getElem?_range hjl] at hj
        rw [hj])
      simpa using this
    refine mk (strOfNums ((List.range l).map b)) ?_ ⟨by rw [strOfNums_size]; simp, fun i hi => ?_⟩
    · rw [run_convert_bytes_string w 44 9 5 (some a) l c und44 und5 und9, run_bytesToString w a l c _ hl, foldl_push_bytes]
      simp [strOfNums, ByteArray.empty, ByteArray.emptyWithCapacity]
      rfl
    · have := hby i hi
      simp only [strOfNums, List.map_toArray, List.getElem?_toArray, List.getElem?_map, List.getElem?_range hi, Option.map_some]
      congr 2
      have h3 : (UInt8.ofNat (b i).toNat).toNat = (b i).toNat := by
        rw [UInt8.toNat_ofNat']; omega
      rw [h3]; omega
  rcases hb with h | ⟨a, hpa, _, hc⟩
  · rcases hp h with rfl | ⟨a, rfl⟩
    · refine mk ByteArray.empty (run_convert_bytes_nil (P := Go.Proofs.Try.prog) w 44 5 und44 und5 l c 9 und9) ⟨by rw [h]; rfl, fun i hi => by omega⟩
    · exact go a rfl fun i hi => by omega
  · exact go a hpa hc
/-- TestString. -/
theorem F78_spec {f b q M K n l : Nat} {g : Nat → Bool} {bs : Nat → Int} {s : ByteArray} {k : Value → W} {w : World} (h : FM w f b q M K n g) (hM : 0 < M) (hM2 : M < 16777216) (hK : K < 1000) (hl : l < 2147483648) (hs : IsStr s l bs)
    (hk : ∀ w', Fr (fun _ => False) w w' → k (.bool (hit g M K (hashOf l bs))) w') : F78 k (some ⟨f, 0, none⟩) s w := by
  unfold F78
  refine bytes_intro hs fun q2 c w1 hb hlc _ f1 => ?_
  exact F76_call (F76_spec (h.fr0 f1) hM hM2 hK hl hb hlc fun w2 f2 => back_bool (hk _ (f1.trans f2 fun _ h => h.elim)))
/-- AddString. -/
theorem F80_spec {f b q M K n l : Nat} {g : Nat → Bool} {bs : Nat → Int} {s : ByteArray} {k : Value → W} {w : World} (h : FM w f b q M K n g) (hM : 0 < M) (hMn : M ≤ n) (hn : n < 1048576) (hK : K < 1000) (hl : l < 2147483648) (hs : IsStr s l bs)
    (hk : ∀ q' w', FM w' f b q' M K n (plus g M K (hashOf l bs)) → Fr (fun x => x = b ∨ x = q) w w' → (q' = q ∨ w.heap.size ≤ q') → k (.pointer (some ⟨f, 0, none⟩)) w') : F80 k (some ⟨f, 0, none⟩) s w := by
  unfold F80
  refine bytes_intro hs fun q2 c w1 hb hlc _ f1 => ?_
  refine F81_call (F81_spec (h.fr0 f1) hM hMn hn hK hl hb hlc fun q3 w2 h2 f2 hq => back_ptr ?_)
  have := f1.size
  exact hk q3 w2 h2 ((f1.mono (S' := fun x => x = b ∨ x = q) fun _ h => h.elim).trans f2 fun _ h => .inl h) (by omega)

/-! ## Two filters -/
/-- Equal, of bitsets with the same words. -/
theorem F109_spec {b q c qc n : Nat} {ws rest rest' : List Nat} {k : Value → W} {w : World} (hb : BW w b q n ws rest) (hc : BW w c qc n ws rest') (hn : n < 1048576)
    (hk : ∀ w', Fr (fun _ => False) w w' → k (.bool true) w') : F109 k (some ⟨b, 0, none⟩) (some ⟨c, 0, none⟩) w := by
  have hlw := hb.len
  unfold F109
  simp only [Option.isNone_some, BIf_false]
  unfold F109_J1
  simp only [BIf_false]
  refine drw_intro fun w1 f1 z1 => ?_
  have hb1 := hb.fr f1 id id
  have hc1 := hc.fr f1 id id
  refine load_int hb1.head rfl ?_
  refine load_int hc1.head rfl ?_
  rw [bne_self_eq_false]
  simp only [BIf_false]
  refine load_int hb1.head rfl ?_
  refine BIf_intro (fun h => hk _ f1) (fun h => ?_)
  refine F95_call (F95_spec hb1 (by omega) (back_int ?_))
  refine BIf_intro (fun h2 => hk _ f1) (fun h2 => ?_)
  have h2 := of_decide_eq_false h2
  have e1 : subI .i64 ((ws.length : Nat) : Int) 1 = ((ws.length - 1 : Nat) : Int) := by rw [subI_i64 (by omega) (by omega)]; omega
  simp only [NN_mk, add_mk, Nat.zero_add]
  rw [e1]
  refine hb1.lds ⟨⟨by omega, by omega⟩, ?_⟩
  simp only [add_mk, Nat.zero_add, Int.toNat_natCast]
  refine hb1.ldw (by omega) ?_
  refine hc1.lds ⟨⟨by omega, by omega⟩, ?_⟩
  simp only [add_mk, Nat.zero_add, Int.toNat_natCast]
  refine hc1.ldw (by omega) ?_
  refine F109_L1_rule (fun b' c' n' i' w' => b' = some ⟨b, 0, none⟩ ∧ c' = some ⟨c, 0, none⟩ ∧ n' = ((ws.length : Nat) : Int) ∧ ∃ i : Nat, i' = i ∧ i ≤ ws.length ∧ Fr (fun _ => False) w w') (fun _ _ _ i' _ => ws.length - i'.toNat) ?_
    ⟨rfl, rfl, rfl, 0, rfl, Nat.zero_le _, f1⟩
  clear hb1 hc1 f1
  rintro b' c' n' i' w' ⟨rfl, rfl, rfl, i, rfl, hi, fr⟩
  unfold F109_L1
  refine BIf_intro (fun hd => ?_) (fun hd => hk _ fr)
  have hd := of_decide_eq_true hd
  refine drw_intro fun w2 f2 z2 => ?_
  replace fr := fr.trans f2 fun _ h => h.elim
  have hb1 := hb.fr fr id id
  have hc1 := hc.fr fr id id
  simp only [NN_mk, add_mk, Nat.zero_add]
  refine hc1.lds ?_
  simp only [NN_mk, add_mk, Nat.zero_add, Int.toNat_natCast]
  refine ⟨⟨by omega, by omega⟩, hc1.ldw (by omega) ?_⟩
  refine hb1.lds ?_
  simp only [NN_mk, add_mk, Nat.zero_add, Int.toNat_natCast]
  refine ⟨⟨by omega, by omega⟩, hb1.ldw (by omega) ?_⟩
  rw [bne_self_eq_false]
  simp only [BIf_false]
  have ei : addI .i64 (i : Int) 1 = ((i + 1 : Nat) : Int) := by rw [addI_i64 (by omega) (by omega)]; omega
  rw [ei]
  exact ⟨⟨(by trivial), (by trivial), (by trivial), i + 1, rfl, by omega, fr⟩, by omega⟩
theorem F82_spec {f b q f2 b2 q2 M K l : Nat} {g g2 : Nat → Bool} {k : Value → W} {w : World} (h : FM w f b q M K (64 * l) g) (h2 : FM w f2 b2 q2 M K (64 * l) g2) (hg : ∀ j, g j = g2 j) (hl : l < 16384)
    (hk : ∀ w', Fr (fun _ => False) w w' → k (.bool true) w') : F82 k (some ⟨f, 0, none⟩) (some ⟨f2, 0, none⟩) w := by
  unfold F82
  refine drw_intro fun w1 f1 z1 => ?_
  replace h := h.fr0 f1
  replace h2 := h2.fr0 f1
  refine load_int h.head rfl ?_
  refine load_int h2.head rfl ?_
  rw [beq_self_eq_true]
  simp only [BIf_true]
  refine load_int h.head rfl ?_
  refine load_int h2.head rfl ?_
  rw [beq_self_eq_true]
  simp only [BIf_true]
  refine load_ptr h.head rfl ?_
  refine load_ptr h2.head rfl ?_
  obtain ⟨⟨ws, rest, hw, hwg⟩, _⟩ := h.set
  obtain ⟨⟨vs, rest2, hv, hvg⟩, _⟩ := h2.set
  have e : ws = vs := words_ext (by rw [hw.len, hv.len]) (fun x hx => hw.small x (List.mem_append_left _ hx)) (fun x hx => hv.small x (List.mem_append_left _ hx)) fun j => by rw [hwg, hvg, hg]
  subst e
  refine F109_call (F109_spec hw hv (by omega) fun w2 f2 => back_bool ?_)
  have hd := h.head.fr f2 id
  have hd2 := h2.head.fr f2 id
  simp only [add_mk, Nat.zero_add]
  repeat (first | refine Chk1_iff.2 ⟨by rw [hd.cell]; rfl, ?_⟩ | refine Chk1_iff.2 ⟨by rw [hd2.cell]; rfl, ?_⟩)
  exact hk _ (f1.trans f2 fun _ h => h.elim)
/-- InPlaceUnion, of the same length. -/
theorem F111_spec {b q c qc l : Nat} {f g : Nat → Bool} {k : Value → W} {w : World} (hb : BSet w b q (64 * l) f) (hc : BSet w c qc (64 * l) g) (h0 : 0 < l) (hl : l < 16384) (hne : b ≠ c ∧ b ≠ qc ∧ q ≠ c ∧ q ≠ qc)
    (hk : ∀ w', BSet w' b q (64 * l) (fun j => f j || g j) → Fr (fun x => x = b ∨ x = q) w w' → k (.tuple #[]) w') : F111 k (some ⟨b, 0, none⟩) (some ⟨c, 0, none⟩) w := by
  have hb0 := hb
  obtain ⟨⟨ws, rest, hw, hf⟩, hfl⟩ := hb
  obtain ⟨⟨vs, rest', hv, hg⟩, hgl⟩ := hc
  have hlw := hw.len
  have hlv := hv.len
  have hwl : ws.length = l := by omega
  have hvl : vs.length = l := by omega
  have hbq := hw.ne
  unfold F111
  refine F89_call (F89_spec (back0 ?_))
  refine F89_call (F89_spec (back0 ?_))
  refine F95_call (F95_spec hv (by omega) (back_int ?_))
  refine F95_call (F95_spec hw (by omega) (back_int ?_))
  rw [decide_eq_false (by omega)]
  simp only [BIf_false]
  unfold F111_J1
  refine drw_intro fun w1 f1 z1 => ?_
  replace hw := hw.fr f1 id id
  replace hv := hv.fr f1 id id
  refine load_int hv.head rfl ?_
  rw [decide_eq_true (by omega)]
  simp only [BIf_true]
  refine load_int hv.head rfl ?_
  refine load_int hw.head rfl ?_
  have e1 : subI .u64 ((64 * l : Nat) : Int) 1 = ((64 * l - 1 : Nat) : Int) := by rw [subI_u64 (by omega) (by omega)]; omega
  rw [e1, decide_eq_false (by omega)]
  unfold F111_J2
  simp only [BIf_false]
  unfold F111_J3
  rw [decide_eq_true (by omega)]
  simp only [BIf_true]
  refine drw_intro fun w2 f2 z2 => ?_
  replace hw := hw.fr f2 id id
  replace hv := hv.fr f2 id id
  have f12 := f1.trans f2 fun _ h => h.elim
  simp only [NN_mk, add_mk, Nat.zero_add]
  refine hw.lds (hv.lds ?_)
  have e2 : subI .i64 ((vs.length : Nat) : Int) 1 = ((l - 1 : Nat) : Int) := by rw [hvl, subI_i64 (by omega) (by omega)]; omega
  rw [e2]
  simp only [NN_mk, add_mk, Nat.zero_add, Int.toNat_natCast]
  refine ⟨⟨by omega, by omega⟩, hw.ldw (by omega) ⟨⟨by omega, by omega⟩, hv.ldw (by omega) ?_⟩⟩
  refine F111_L1_rule (fun b' c' l' dp dl dc cp cl cc i' w' => b' = some ⟨b, 0, none⟩ ∧ c' = some ⟨c, 0, none⟩ ∧ l' = ((l : Nat) : Int) ∧ dp = some ⟨q, 0, none⟩ ∧ dl = l ∧ cp = some ⟨qc, 0, none⟩ ∧ cl = l ∧
      ∃ (i : Nat) (rs : List Nat), i' = i ∧ i ≤ l ∧ BW w' b q (64 * l) rs rest ∧ BW w' c qc (64 * l) vs rest' ∧ (∀ j, rs.getD j 0 = if j < i then ws.getD j 0 ||| vs.getD j 0 else ws.getD j 0) ∧ Fr (fun x => x = b ∨ x = q) w w')
    (fun _ _ _ _ _ _ _ _ _ i' _ => l - i'.toNat) ?_ ⟨rfl, rfl, by rw [hvl], rfl, hwl, rfl, hvl, 0, ws, rfl, Nat.zero_le _, hw, hv, fun j => by simp, f12.mono fun _ h => h.elim⟩
  have hwlt := fun i => hw.word_lt i
  clear hw hv f1 f2 f12
  rintro b' c' l' dp dl dc cp cl cc i' w' ⟨rfl, rfl, rfl, rfl, rfl, rfl, hcl, i, rs, rfl, hi, hr, hv, hrs, fr⟩
  have hrl : rs.length = dl := by have := hr.len; omega
  unfold F111_L1
  refine BIf_intro (fun hd => ?_) (fun hd => ?_)
  · have hd := of_decide_eq_true hd
    refine drw_intro fun w3 f3 z3 => ?_
    replace hr := hr.fr f3 id id
    replace hv := hv.fr f3 id id
    simp only [NN_mk, add_mk, Nat.zero_add, Int.toNat_natCast]
    refine ⟨⟨by omega, by omega⟩, hr.ldw (by omega) ⟨⟨by omega, by omega⟩, hv.ldw (by omega) ⟨⟨by omega, by omega⟩, ?_⟩⟩⟩
    rw [orI_nat (hr.word_lt _) (hv.word_lt _)]
    refine hr.put (by omega) (Nat.or_lt_two_pow (n := 64) (hr.word_lt _) (hv.word_lt _)) fun w4 h4 f4 => ?_
    have ei : addI .i64 (i : Int) 1 = ((i + 1 : Nat) : Int) := by rw [addI_i64 (by omega) (by omega)]; omega
    rw [ei]
    refine ⟨⟨(by trivial), (by trivial), (by trivial), (by trivial), (by trivial), (by trivial), hcl, i + 1, _, rfl, by omega, h4, hv.fr f4 (by rintro (e | e) <;> omega) (by rintro (e | e) <;> omega), fun j => ?_, (fr.trans f3 fun _ h => h.elim).trans f4 fun _ h => .inl h⟩, by omega⟩
    rw [getD_set (by omega)]
    by_cases e : j = i
    · rw [if_pos e, e, if_pos (by omega), hrs i, if_neg (by omega)]
    · rw [if_neg e, hrs j]
      by_cases e2 : j < i
      · rw [if_pos e2, if_pos (by omega)]
      · rw [if_neg e2, if_neg (by omega)]
  · have hd := of_decide_eq_false hd
    have : i = dl := by omega
    subst this
    unfold F111_J4
    simp only [NN_mk, add_mk, Nat.zero_add]
    refine hv.lds ?_
    rw [decide_eq_false (by omega)]
    simp only [BIf_false]
    refine hk w' ⟨⟨rs, rest, hr, fun j => ?_⟩, fun j hj => ?_⟩ fr
    · rw [← hf j, ← hg j]
      unfold wbit
      rw [hrs]
      by_cases e : j / 64 < i
      · rw [if_pos e, Nat.testBit_or]
      · rw [if_neg e, getD_lt (ws := vs) (by omega)]; simp
    · simp only [Bool.or_eq_true] at hj
      rcases hj with hj | hj
      · exact hfl j hj
      · exact hgl j hj
/-- Merge. -/
theorem F83_spec {f b q f2 b2 q2 M K l : Nat} {g g2 : Nat → Bool} {k : Value → W} {w : World} (h : FM w f b q M K (64 * l) g) (h2 : FM w f2 b2 q2 M K (64 * l) g2) (h0 : 0 < l) (hl : l < 16384) (hne : b ≠ b2 ∧ b ≠ q2 ∧ q ≠ b2 ∧ q ≠ q2 ∧ f2 ≠ b ∧ f2 ≠ q)
    (hk : ∀ w', FM w' f b q M K (64 * l) (fun j => g j || g2 j) → Fr (fun x => x = b ∨ x = q) w w' → k .nilIface w') : F83 k (some ⟨f, 0, none⟩) (some ⟨f2, 0, none⟩) w := by
  unfold F83
  refine drw_intro fun w1 f1 z1 => ?_
  replace h := h.fr0 f1
  replace h2 := h2.fr0 f1
  refine load_int h.head rfl ?_
  refine load_int h2.head rfl ?_
  rw [bne_self_eq_false]
  simp only [BIf_false]
  refine drw_intro fun w2 f2' z2 => ?_
  replace h := h.fr0 f2'
  replace h2 := h2.fr0 f2'
  refine load_int h.head rfl ?_
  refine load_int h2.head rfl ?_
  rw [bne_self_eq_false]
  simp only [BIf_false]
  refine drw_intro fun w3 f3 z3 => ?_
  replace h := h.fr0 f3
  replace h2 := h2.fr0 f3
  refine load_ptr h.head rfl ?_
  refine load_ptr h2.head rfl ?_
  have hn := h.ne
  refine F111_call (F111_spec h.set h2.set h0 hl ⟨hne.1, hne.2.1, hne.2.2.1, hne.2.2.2.1⟩ fun w4 h4 f4 => back0 ?_)
  have hd := h.head.fr f4 (by rintro (e | e) <;> omega)
  have hd2 := h2.head.fr f4 (by rintro (e | e) <;> omega)
  repeat (first | refine Chk1_iff.2 ⟨by rw [hd.cell]; rfl, ?_⟩ | refine Chk1_iff.2 ⟨by rw [hd2.cell]; rfl, ?_⟩)
  exact hk _ ⟨hd, h4, hn⟩ ((((f1.trans f2' fun _ h => h.elim).trans f3 fun _ h => h.elim).mono (S' := fun x => x = b ∨ x = q) fun _ h => h.elim).trans f4 fun _ h => .inl h)
end Go.Proofs.Ytopdlfecfgimpaa.E
