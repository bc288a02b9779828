/-
  Filters: memory, and the library's methods on them.
-/
import Derived.Test.YtopdlfecfgimpaaHash
import Derived.Laws.BytesArg
import Derived.Laws.IdiomStrings
namespace Go.Proofs.Ytopdlfecfgimpaa.E
open Go
set_option linter.unusedSimpArgs false
set_option linter.unusedVariables false
set_option maxRecDepth 100000

theorem und44 : Go.Proofs.Try.prog.underlying 44 = some (.slice 5) := by kernel_rfl
theorem und5 : Go.Proofs.Try.prog.underlying 5 = some (.int .u8) := by kernel_rfl
theorem und9 : Go.Proofs.Try.prog.underlying 9 = some .string := by kernel_rfl

/-! ## Lists of words -/
/-- A list of words, read from p on; it lies in a block from lo to hi. -/
structure WV (w : World) (lo hi : Nat) (p : Option Addr) (ws : List Nat) : Prop where
  sees : Sees w p ws
  small : ∀ x ∈ ws, x < 18446744073709551616
  bd : ∀ x, bl p x → lo ≤ x ∧ x < hi
namespace WV
theorem fr0 {w w' : World} {lo hi : Nat} {p : Option Addr} {ws : List Nat} (h : WV w lo hi p ws) (f : Fr (fun _ => False) w w') : WV w' lo hi p ws := ⟨h.sees.fr0 f, h.small, h.bd⟩
theorem st {w w' : World} {lo hi b : Nat} {p : Option Addr} {ws : List Nat} (h : WV w lo hi p ws) (fr : Fr (fun x => x = b) w w') (hb : b < lo ∨ hi ≤ b) : WV w' lo hi p ws :=
  ⟨h.sees.frS fr fun x hx (e : x = b) => by have := h.bd x hx; omega, h.small, h.bd⟩
theorem widen {w : World} {lo hi lo' hi' : Nat} {p : Option Addr} {ws : List Nat} (h : WV w lo hi p ws) (h1 : lo' ≤ lo) (h2 : hi ≤ hi') : WV w lo' hi' p ws :=
  ⟨h.sees, h.small, fun x hx => by have := h.bd x hx; omega⟩
end WV
theorem getD_small {ws : List Nat} (h : ∀ x ∈ ws, x < 18446744073709551616) (i : Nat) : ws.getD i 0 < 18446744073709551616 := by
  rw [List.getD_eq_getElem?_getD]
  rcases Nat.lt_or_ge i ws.length with hi | hi
  · rw [List.getElem?_eq_getElem hi]; exact h _ (List.getElem_mem hi)
  · rw [List.getElem?_eq_none hi]; decide
/-- Words of the same bits are the same. -/
theorem words_ext {ws vs : List Nat} (hl : ws.length = vs.length) (h1 : ∀ x ∈ ws, x < 18446744073709551616) (h2 : ∀ x ∈ vs, x < 18446744073709551616) (h : ∀ j, wbit ws j = wbit vs j) : ws = vs := by
  apply List.ext_getElem hl
  intro i hi hi'
  have e1 : ws.getD i 0 = ws[i] := by rw [List.getD_eq_getElem?_getD, List.getElem?_eq_getElem hi]; rfl
  have e2 : vs.getD i 0 = vs[i] := by rw [List.getD_eq_getElem?_getD, List.getElem?_eq_getElem hi']; rfl
  rw [← e1, ← e2]
  apply Nat.eq_of_testBit_eq
  intro t
  by_cases ht : t < 64
  · have := h (64 * i + t)
    unfold wbit at this
    rwa [show (64 * i + t) / 64 = i by omega, show (64 * i + t) % 64 = t by omega] at this
  · rw [Nat.testBit_lt_two_pow (Nat.lt_of_lt_of_le (getD_small h1 i) (Nat.pow_le_pow_right (n := 2) (by decide) (by omega : 64 ≤ t))), Nat.testBit_lt_two_pow (Nat.lt_of_lt_of_le (getD_small h2 i) (Nat.pow_le_pow_right (n := 2) (by decide) (by omega : 64 ≤ t)))]
/-- words: a copy. -/
theorem F85_spec {p : Option Addr} {c : Nat} {ws : List Nat} {k : Value → W} {w : World} (hs : Sees w p ws) (hsm : ∀ x ∈ ws, x < 18446744073709551616) (h0 : 0 < ws.length) (hl : ws.length ≤ 1048576)
    (hk : ∀ q rest w', Blk w' q 77 (us (ws ++ rest)) → (∀ x ∈ ws ++ rest, x < 18446744073709551616) → ws.length + rest.length ≤ 9223372036854775807 → Fr (fun _ => False) w w' → w.heap.size ≤ q → q < w'.heap.size → k (.slice (some ⟨q, 0, none⟩) ws.length (ws.length + rest.length)) w') :
    F85 k p ws.length c w := by
  rcases hs with e | ⟨a, rfl, hb, hc⟩
  · rw [e] at h0; cases h0
  unfold F85
  obtain ⟨ii, hi1, hi2, hi3, hi4⟩ := inf77
  have hr := run_append_nil (P := Go.Proofs.Try.prog) w 43 43 77 ii (.int .u64 0) und43 hi1 hi2 a ws.length c (us ws) (by rw [hi3]; simp)
    (fun j v hj => by
      have hjl : j < ws.length := by have := (List.getElem?_eq_some_iff.1 hj).1; simpa using this
      rw [hc j hjl, ← us_get _ _ hjl]; exact hj) h0 (by omega) (by rw [hi4]; omega)
  have hcap : ws.length ≤ grownCap w ws.length 0 77 := grownCap_ge _ _ _ _
  have hmax : grownCap w ws.length 0 77 ≤ 9223372036854775807 := grownCap_le_maxLen w ws.length 0 77 (by show _ ≤ 9223372036854775807; omega)
  generalize grownCap w ws.length 0 77 = cap at *
  have hz : (us ws).toArray ++ Builtin.zeroCells (Value.int .u64 0).cells (cap - ws.length) = (us (ws ++ List.replicate (cap - ws.length) 0)).toArray := by
    have : Builtin.zeroCells (Value.int .u64 0).cells (cap - ws.length) = (List.replicate (cap - ws.length) (Value.int .u64 0)).toArray := by
      unfold Builtin.zeroCells
      apply Array.ext
      · simp [Value.cells]
      · intro i h1 h2
        simp [Value.cells, Nat.mod_one]
    rw [this, us_append, us_replicate]; simp
  rw [hz] at hr
  refine NextT_slice (builtin_append hr) ?_
  have hlen : (List.replicate (cap - ws.length) 0).length = cap - ws.length := by simp
  have e : ws.length + (List.replicate (cap - ws.length) 0).length = cap := by rw [hlen]; omega
  have := hk w.heap.size (List.replicate (cap - ws.length) 0) (w.drew.alloc (.cells (us (ws ++ List.replicate (cap - ws.length) 0)).toArray 77)) (Blk.new' _ _ _)
    (fun x hx => by
      rcases List.mem_append.1 hx with hx | hx
      · exact hsm x hx
      · rw [(List.mem_replicate.1 hx).2]; decide) (by rw [e]; exact hmax)
    ((Fr.drew (fun _ => False) w).trans (Fr.alloc (fun _ => False) _ _) fun _ h => h.elim) (Nat.le_refl _) (by simp)
  rw [e] at this
  exact this
/-- FromWithLength, From. -/
theorem F84_spec {q : Nat} {ws rest : List Nat} {k : Value → W} {w : World} (hq : Blk w q 77 (us (ws ++ rest))) (hs : ∀ x ∈ ws ++ rest, x < 18446744073709551616) (hc : ws.length + rest.length ≤ 9223372036854775807) (hl : ws.length ≤ 1048576)
    (hk : ∀ b w', BW w' b q (64 * ws.length) ws rest → Fr (fun _ => False) w w' → w.heap.size ≤ b → k (.pointer (some ⟨b, 0, none⟩)) w') : F84 k (some ⟨q, 0, none⟩) ws.length (ws.length + rest.length) w := by
  unfold F84
  have e1 : IntKind.wrap .u64 ((ws.length : Nat) : Int) = ((ws.length : Nat) : Int) := wrap_u64 (by omega) (by omega)
  have e2 : mulI .u64 ((ws.length : Nat) : Int) 64 = ((64 * ws.length : Nat) : Int) := by rw [mulI_u64 (by omega) (by omega)]; omega
  rw [e1, e2]
  refine F112_call ?_
  unfold F112
  refine F92_call (F92_spec (by omega) (back_int ?_))
  rw [show (64 * ws.length + 63) / 64 = ws.length by omega, decide_eq_false (by omega)]
  simp only [BIf_false]
  refine new_intro fun b w1 e1 bb f1 z1 => back_ptr ?_
  exact hk b w1 ⟨bb, hq.fr f1 id, hs, by omega, by omega, hc⟩ f1 (by omega)
/-- A filter at block f: its bits are at b, in the words at q. -/
structure FM (w : World) (f b q M K : Nat) (n : Nat) (g : Nat → Bool) : Prop where
  head : Blk w f 108 [.int .u64 M, .int .u64 K, .pointer (some ⟨b, 0, none⟩)]
  set : BSet w b q n g
  ne : f ≠ b ∧ f ≠ q
theorem FM.fr {S : Nat → Prop} {w w' : World} {f b q M K n : Nat} {g : Nat → Bool} (h : FM w f b q M K n g) (fr : Fr S w w') (h1 : ¬ S f) (h2 : ¬ S b) (h3 : ¬ S q) : FM w' f b q M K n g :=
  ⟨h.head.fr fr h1, h.set.fr fr h2 h3, h.ne⟩
theorem FM.fr0 {w w' : World} {f b q M K n : Nat} {g : Nat → Bool} (h : FM w f b q M K n g) (fr : Fr (fun _ => False) w w') : FM w' f b q M K n g := h.fr fr id id id
/-- filter: a filter of plain data. -/
theorem F75_spec {M K c lo hi : Nat} {p : Option Addr} {ws : List Nat} {k : Value → W} {w : World} (hs : WV w lo hi p ws) (h0 : 0 < ws.length) (hl : ws.length ≤ 262144) (g : Nat → Bool) (hg : ∀ j, wbit ws j = g j)
    (hk : ∀ f b q w', FM w' f b q M K (64 * ws.length) g → Fr (fun _ => False) w w' → w.heap.size ≤ f → w.heap.size ≤ b → w.heap.size ≤ q → k (.pointer (some ⟨f, 0, none⟩)) w') : F75 k M K p ws.length c w := by
  unfold F75
  refine new_intro fun n4 w1 e1 b4 f1 z1 => ?_
  have hs1 := hs.fr0 f1
  refine drw_intro fun w2 f2 z2 => ?_
  replace hs1 := hs1.fr0 f2
  replace b4 := b4.fr f2 id
  refine load_slice b4 rfl ?_
  refine load_int b4 rfl ?_
  refine load_int b4 rfl ?_
  refine F85_call (F85_spec hs1.sees hs1.small h0 (by omega) fun q rest w3 hq hqs hqc f3 zq zq2 => back_slice ?_)
  replace b4 := b4.fr f3 id
  repeat (first | refine Chk1_iff.2 ⟨by rw [b4.cell]; rfl, ?_⟩)
  refine F103_call ?_
  unfold F103
  refine F84_call (F84_spec hq hqs hqc (by omega) fun b w4 hb f4 zb => back_ptr ?_)
  refine new_intro fun f w5 e5 bf f5 z5 => back_ptr ?_
  have z3 := f3.size
  have z4 := f4.size
  have hbl := hb.head.lt
  replace b4 := (b4.fr f4 id).fr f5 id
  repeat (first | refine Chk1_iff.2 ⟨by rw [b4.cell]; rfl, ?_⟩)
  refine hk f b q w5 ⟨bf, ⟨⟨ws, rest, hb.fr f5 id id, hg⟩, fun i hi => ?_⟩, by omega, by omega⟩ ((((f1.trans f2 fun _ h => h.elim).trans f3 fun _ h => h.elim).trans f4 fun _ h => h.elim).trans f5 fun _ h => h.elim) (by omega) (by omega) (by omega)
  rcases Nat.lt_or_ge i (64 * ws.length) with h | h
  · exact h
  · rw [← hg i, wbit_ge (by omega)] at hi; cases hi
/-- told: a filter as plain data. -/
theorem F79_spec {f b q M K l : Nat} {g : Nat → Bool} {k : Value → W} {w : World} (h : FM w f b q M K (64 * l) g) (h0 : 0 < l) (hl : l ≤ 262144)
    (hk : ∀ ws p c w', ws.length = l → (∀ j, wbit ws j = g j) → WV w' w.heap.size w'.heap.size p ws → Fr (fun _ => False) w w' → k (.agg #[.int .u64 M, .int .u64 K, .slice p ws.length c]) w') : F79 k (some ⟨f, 0, none⟩) w := by
  unfold F79
  refine new_intro fun n2 w1 e1 b2 f1 z1 => ?_
  replace h := h.fr0 f1
  obtain ⟨⟨ws, rest, hm, hg⟩, hlt⟩ := h.set
  have hlen := hm.len
  have hwl : ws.length = l := by omega
  refine F105_call ?_
  unfold F105
  refine load_int h.head rfl (back_int ?_)
  refine F106_call ?_
  unfold F106
  refine load_int h.head rfl (back_int ?_)
  refine F107_call ?_
  unfold F107
  refine load_ptr h.head rfl (back_ptr ?_)
  refine F108_call ?_
  unfold F108
  refine LoadT_slice.2 ⟨_, _, _, hm.c1, back_slice ?_⟩
  refine F85_call (F85_spec hm.sees (fun x hx => hm.small x (List.mem_append_left _ hx)) (by omega) (by omega) fun q2 rest2 w3 hq hqs hqc f3 zq zq2 => back_slice ?_)
  replace b2 := b2.fr f3 id
  have z3 := f3.size
  refine store_intro b2 (by simp) rfl fun w4 b2 f4 z4 => ?_
  refine store_intro b2 (by simp) rfl fun w5 b2 f5 z5 => ?_
  refine store_intro b2 (by simp) rfl fun w6 b2 f6 z6 => ?_
  refine load_int b2 rfl ?_
  refine load_int b2 rfl ?_
  refine load_slice b2 rfl ?_
  have hq6 : Blk w6 q2 77 (us (ws ++ rest2)) := ((hq.fr f4 (show ¬ q2 = n2 by omega)).fr f5 (show ¬ q2 = n2 by omega)).fr f6 (show ¬ q2 = n2 by omega)
  refine hk ws _ _ w6 hwl hg ⟨.inr ⟨_, rfl, hq6.lt, fun i hi => ?_⟩, fun x hx => hm.small x (List.mem_append_left _ hx), ?_⟩ ((((f1.trans f3 fun _ h => h.elim).trans f4 ?_).trans f5 ?_).trans f6 ?_)
  · rw [add_mk, Nat.zero_add, hq6.cell, us_append, List.getElem?_append_left (by simpa using hi), us_get _ _ hi]
  · rintro x ⟨a, h1, h2⟩; cases h1; rw [← h2]; exact ⟨by show w.heap.size ≤ q2; omega, by show q2 < w6.heap.size; omega⟩
  all_goals (rintro x rfl; exact .inr (by omega))

theorem back_h4 {f : Int → Int → Int → Int → W} {a b c d : Int} {w : World} (h : f a b c d w) :
    Back (.s (.agg [(.int .u64), (.int .u64), (.int .u64), (.int .u64)])) f (.returned (.agg #[.int .u64 a, .int .u64 b, .int .u64 c, .int .u64 d])) w := ⟨(a, b, c, d, ()), rfl, h⟩
/-! ## Places -/
theorem wrap_range (n : Int) : 0 ≤ IntKind.wrap .u64 n ∧ IntKind.wrap .u64 n < 18446744073709551616 := by
  simp only [IntKind.wrap, IntKind.bits, IntKind.signed]; simp; omega
/-- The hash's numbers. -/
abbrev H4 := (Int × Int) × (Int × Int)
noncomputable def hashOf (l : Nat) (b : Nat → Int) : H4 := if h : l < 2147483648 then (F101_ex l b h).choose else ((0, 0), (0, 0))
theorem F101_spec {l c : Nat} {b : Nat → Int} {p : Option Addr} {k : Value → W} {w : World} (hl : l < 2147483648) (hb : TB w p l b) (hlc : l ≤ c)
    (hk : ∀ w', Fr (fun _ => False) w w' → k (.agg #[.int .u64 (hashOf l b).1.1, .int .u64 (hashOf l b).1.2, .int .u64 (hashOf l b).2.1, .int .u64 (hashOf l b).2.2]) w') : F101 k p l c w := by
  unfold hashOf at hk
  rw [dif_pos hl] at hk
  exact (F101_ex l b hl).choose_spec k w p c hb hlc hk
def locI (r : H4) (i : Nat) : Int := addI .u64 (if i % 2 = 0 then r.1.1 else r.1.2) (mulI .u64 i (if (i + i % 2) % 4 / 2 = 0 then r.2.1 else r.2.2))
def loc (r : H4) (i : Nat) : Nat := (locI r i).toNat
theorem loc_eq (r : H4) (i : Nat) : locI r i = (loc r i : Nat) := by
  have := (wrap_range ((if i % 2 = 0 then r.1.1 else r.1.2) + mulI .u64 i (if (i + i % 2) % 4 / 2 = 0 then r.2.1 else r.2.2))).1
  unfold loc
  have h : 0 ≤ locI r i := this
  omega
theorem loc_lt (r : H4) (i : Nat) : loc r i < 18446744073709551616 := by
  have := (wrap_range ((if i % 2 = 0 then r.1.1 else r.1.2) + mulI .u64 i (if (i + i % 2) % 4 / 2 = 0 then r.2.1 else r.2.2))).2
  have h : locI r i < 18446744073709551616 := this
  have := loc_eq r i
  omega
/-- location. -/
theorem F102_spec {r : H4} {i : Nat} {k : Value → W} {w : World} (hi : i < 1000) (hk : ∀ w', Fr (fun _ => False) w w' → k (.int .u64 (loc r i : Nat)) w') : F102 k r.1.1 r.1.2 r.2.1 r.2.2 i w := by
  unfold F102
  refine new_intro fun n w1 e1 bn f1 z1 => ?_
  refine drw_intro fun w2 f2 z2 => ?_
  replace bn := bn.fr f2 id
  have r1 : remI (i : Int) 2 = ((i % 2 : Nat) : Int) := by rw [remI_eq (by omega)]; omega
  have r2 : addI .u64 (i : Int) ((i % 2 : Nat) : Int) = ((i + i % 2 : Nat) : Int) := addI_nat (by omega)
  have r3 : remI ((i + i % 2 : Nat) : Int) 4 = (((i + i % 2) % 4 : Nat) : Int) := by rw [remI_eq (by omega)]; omega
  have r4 : quoI .u64 (((i + i % 2) % 4 : Nat) : Int) 2 = (((i + i % 2) % 4 / 2 : Nat) : Int) := by rw [quoI_u64 (by omega) (by omega) (by omega)]; omega
  have r5 : addI .u64 2 (((i + i % 2) % 4 / 2 : Nat) : Int) = ((2 + (i + i % 2) % 4 / 2 : Nat) : Int) := addI_nat (x := 2) (by omega)
  rw [r1, r2, r3, r4, r5]
  simp only [Int.toNat_natCast]
  refine ⟨by decide, ⟨by omega, by omega⟩, ?_⟩
  rw [add_mk, Nat.zero_add]
  refine load_int (n := if i % 2 = 0 then r.1.1 else r.1.2) bn ?_ ?_
  · rcases Nat.mod_two_eq_zero_or_one i with h | h
    · rw [h]; rfl
    · rw [h]; rfl
  refine ⟨by decide, by decide, by decide, ⟨by omega, by omega⟩, ?_⟩
  rw [add_mk, Nat.zero_add]
  refine load_int (n := if (i + i % 2) % 4 / 2 = 0 then r.2.1 else r.2.2) bn ?_ ?_
  · have : (i + i % 2) % 4 / 2 = 0 ∨ (i + i % 2) % 4 / 2 = 1 := by omega
    rcases this with h | h
    · rw [h]; rfl
    · rw [h]; rfl
  repeat (first | refine Chk1_iff.2 ⟨by
    rw [bn.cell]
    first
    | (rcases Nat.mod_two_eq_zero_or_one i with h | h <;> rw [h] <;> rfl)
    | (have : (i + i % 2) % 4 / 2 = 0 ∨ (i + i % 2) % 4 / 2 = 1 := by omega
       rcases this with h | h <;> rw [h] <;> rfl), ?_⟩)
  refine bind_intro ?_
  have e : addI .u64 (if i % 2 = 0 then r.1.1 else r.1.2) (mulI .u64 i (if (i + i % 2) % 4 / 2 = 0 then r.2.1 else r.2.2)) = (loc r i : Nat) := loc_eq r i
  rw [e]
  exact hk _ (f1.trans f2 fun _ h => h.elim)
/-- A filter's own location. -/
theorem F104_spec {f b q M K n : Nat} {g : Nat → Bool} {r : H4} {i : Nat} {k : Value → W} {w : World} (h : FM w f b q M K n g) (hM : 0 < M) (hi : i < 1000) (hk : ∀ w', Fr (fun _ => False) w w' → k (.int .u64 (loc r i % M : Nat)) w') :
    F104 k (some ⟨f, 0, none⟩) r.1.1 r.1.2 r.2.1 r.2.2 i w := by
  unfold F104
  refine new_intro fun n7 w1 e1 bn f1 z1 => ?_
  refine drw_intro fun w2 f2 z2 => ?_
  replace bn := bn.fr f2 id
  have f12 := f1.trans f2 fun _ h => h.elim
  have h2 := h.fr0 f12
  refine load_int bn rfl ?_
  refine load_int bn rfl ?_
  refine load_int bn rfl ?_
  refine load_int bn rfl ?_
  refine load_int h2.head rfl ?_
  refine F102_call (F102_spec (r := r) hi fun w3 f3 => back_int ?_)
  have h3 := h2.fr0 f3
  replace bn := bn.fr f3 id
  repeat (first | refine Chk1_iff.2 ⟨by rw [h3.head.cell]; rfl, ?_⟩ | refine Chk1_iff.2 ⟨by rw [bn.cell]; rfl, ?_⟩)
  refine ⟨by omega, ?_⟩
  rw [remI_eq (by omega)]
  have : (((loc r i : Nat) : Int) % ((M : Nat) : Int)) = ((loc r i % M : Nat) : Int) := by omega
  rw [this]
  exact hk _ (f12.trans f3 fun _ h => h.elim)
/-- Are all places set? -/
def hit (g : Nat → Bool) (M K : Nat) (r : H4) : Bool := decide (∀ i, i < K → g (loc r i % M) = true)
theorem hit_iff {g : Nat → Bool} {M K : Nat} {r : H4} : hit g M K r = true ↔ ∀ i, i < K → g (loc r i % M) = true := by simp [hit]
/-- The bits with the places set. -/
def plus (g : Nat → Bool) (M K : Nat) (r : H4) (j : Nat) : Bool := g j || decide (∃ i, i < K ∧ j = loc r i % M)
/-- Test. -/
theorem F76_spec {f b q M K n l c : Nat} {g : Nat → Bool} {bs : Nat → Int} {p : Option Addr} {k : Value → W} {w : World} (h : FM w f b q M K n g) (hM : 0 < M) (hM2 : M < 16777216) (hK : K < 1000) (hl : l < 2147483648) (hb : TB w p l bs) (hlc : l ≤ c)
    (hk : ∀ w', Fr (fun _ => False) w w' → k (.bool (hit g M K (hashOf l bs))) w') : F76 k (some ⟨f, 0, none⟩) p l c w := by
  unfold F76
  refine F101_call (F101_spec hl hb hlc fun w1 f1 => back_h4 ?_)
  generalize hashOf l bs = r at *
  refine new_intro fun n7 w2 e2 bn f2 z2 => ?_
  refine store_intro bn (by simp) rfl fun w3 bn f3 z3 => ?_
  refine store_intro bn (by simp) rfl fun w4 bn f4 z4 => ?_
  refine store_intro bn (by simp) rfl fun w5 bn f5 z5 => ?_
  refine store_intro bn (by simp) rfl fun w6 bn f6 z6 => ?_
  have fr : Fr (fun _ => False) w w6 := (((((f1.trans f2 fun _ h => h.elim).trans f3 ?_).trans f4 ?_).trans f5 ?_).trans f6 ?_)
  rotate_left
  all_goals try (rintro x rfl; exact .inr (by have := f1.size; omega))
  refine F76_L1_rule (fun f' a' i' w' => f' = some ⟨f, 0, none⟩ ∧ a' = ⟨n7, 0, none⟩ ∧ ∃ i : Nat, i' = i ∧ i ≤ K ∧ (∀ t, t < i → g (loc r t % M) = true) ∧ Blk w' n7 103 [.int .u64 r.1.1, .int .u64 r.1.2, .int .u64 r.2.1, .int .u64 r.2.2] ∧ Fr (fun _ => False) w w')
    (fun _ _ i' _ => K - i'.toNat) ?_ ⟨rfl, rfl, 0, rfl, Nat.zero_le _, fun t ht => by omega, bn, fr⟩
  clear fr bn f1 f2 f3 f4 f5 f6
  rintro f' a' i' w' ⟨rfl, rfl, i, rfl, hi, hall, bn, fr⟩
  have h1 := h.fr0 fr
  unfold F76_L1
  refine load_int h1.head rfl ?_
  refine BIf_intro (fun hc => ?_) (fun hc => ?_)
  · have hc := of_decide_eq_true hc
    refine drw_intro fun w1 f1 z1 => ?_
    replace h1 := h1.fr0 f1
    replace bn := bn.fr f1 id
    refine load_ptr h1.head rfl ?_
    simp only [add_mk, Nat.zero_add, Nat.add_zero]
    refine load_int bn rfl ?_
    refine load_int bn rfl ?_
    refine load_int bn rfl ?_
    refine load_int bn rfl ?_
    refine F104_call (F104_spec (r := r) h1 hM (by omega) fun w2 f2 => back_int ?_)
    replace h1 := h1.fr0 f2
    replace bn := bn.fr f2 id
    repeat (first | refine Chk1_iff.2 ⟨by rw [h1.head.cell]; rfl, ?_⟩ | refine Chk1_iff.2 ⟨by rw [bn.cell]; rfl, ?_⟩)
    have hlt : loc r i % M < M := Nat.mod_lt _ hM
    refine F52_call (Test_spec h1.set (by omega) fun w3 f3 => back_bool ?_)
    replace h1 := h1.fr0 f3
    replace bn := bn.fr f3 id
    repeat (first | refine Chk1_iff.2 ⟨by rw [h1.head.cell]; rfl, ?_⟩ | refine Chk1_iff.2 ⟨by rw [bn.cell]; rfl, ?_⟩)
    have fr3 := ((fr.trans f1 fun _ h => h.elim).trans f2 fun _ h => h.elim).trans f3 fun _ h => h.elim
    have ei : addI .u64 (i : Int) 1 = ((i + 1 : Nat) : Int) := addI_nat (y := 1) (by omega)
    refine BIf_intro (fun ht => ?_) (fun ht => ?_)
    · have ht : g (loc r i % M) = false := by simpa using ht
      have : hit g M K r = false := by
        cases hh : hit g M K r with
        | false => rfl
        | true => rw [hit_iff] at hh; rw [hh i (by omega)] at ht; cases ht
      rw [this] at hk
      exact hk _ fr3
    · have ht : g (loc r i % M) = true := by simpa using ht
      rw [ei]
      refine ⟨⟨(by trivial), (by trivial), i + 1, rfl, by omega, fun t htt => ?_, bn, fr3⟩, by omega⟩
      by_cases e : t = i
      · rw [e]; exact ht
      · exact hall t (by omega)
  · have hc := of_decide_eq_false hc
    have : i = K := by omega
    subst this
    rw [hit_iff.2 hall] at hk
    exact hk _ fr
/-- Add. -/
theorem F81_spec {f b q M K n l c : Nat} {g : Nat → Bool} {bs : Nat → Int} {p : Option Addr} {k : Value → W} {w : World} (h : FM w f b q M K n g) (hM : 0 < M) (hMn : M ≤ n) (hn : n < 1048576) (hK : K < 1000) (hl : l < 2147483648) (hb : TB w p l bs) (hlc : l ≤ c)
    (hk : ∀ q' w', FM w' f b q' M K n (plus g M K (hashOf l bs)) → Fr (fun x => x = b ∨ x = q) w w' → (q' = q ∨ w.heap.size ≤ q') → k (.pointer (some ⟨f, 0, none⟩)) w') : F81 k (some ⟨f, 0, none⟩) p l c w := by
  unfold F81
  refine F101_call (F101_spec hl hb hlc fun w1 f1 => back_h4 ?_)
  generalize hashOf l bs = r at *
  refine new_intro fun n7 w2 e2 bn f2 z2 => ?_
  refine store_intro bn (by simp) rfl fun w3 bn f3 z3 => ?_
  refine store_intro bn (by simp) rfl fun w4 bn f4 z4 => ?_
  refine store_intro bn (by simp) rfl fun w5 bn f5 z5 => ?_
  refine store_intro bn (by simp) rfl fun w6 bn f6 z6 => ?_
  have fr : Fr (fun _ => False) w w6 := (((((f1.trans f2 fun _ h => h.elim).trans f3 ?_).trans f4 ?_).trans f5 ?_).trans f6 ?_)
  rotate_left
  all_goals try (rintro x rfl; exact .inr (by have := f1.size; omega))
  have hlt := h.set.lt
  have hfl := h.head.lt
  have zf := f1.size
  refine F81_L1_rule (fun f' a' i' w' => f' = some ⟨f, 0, none⟩ ∧ a' = ⟨n7, 0, none⟩ ∧ ∃ (i : Nat) (q' : Nat) (g' : Nat → Bool), i' = i ∧ i ≤ K ∧ FM w' f b q' M K n g' ∧ (∀ j, g' j = (g j || decide (∃ t, t < i ∧ j = loc r t % M))) ∧ (q' = q ∨ w.heap.size ≤ q') ∧ n7 ≠ q' ∧
      Blk w' n7 103 [.int .u64 r.1.1, .int .u64 r.1.2, .int .u64 r.2.1, .int .u64 r.2.2] ∧ Fr (fun x => x = b ∨ x = q) w w')
    (fun _ _ i' _ => K - i'.toNat) ?_ ⟨rfl, rfl, 0, q, g, rfl, Nat.zero_le _, h.fr0 fr, fun j => by simp, .inl rfl, by omega, bn, fr.mono fun _ h => h.elim⟩
  have hn7 : b < n7 ∧ w.heap.size ≤ n7 := ⟨by omega, by omega⟩
  clear fr bn f1 f2 f3 f4 f5 f6 h e2 z2 z3 z4 z5 z6
  rintro f' a' i' w' ⟨rfl, rfl, i, q', g', rfl, hi, h1, hg', hq', hnq, bn, fr⟩
  unfold F81_L1
  refine load_int h1.head rfl ?_
  refine BIf_intro (fun hc => ?_) (fun hc => ?_)
  · have hc := of_decide_eq_true hc
    refine drw_intro fun w1 f1 z1 => ?_
    replace h1 := h1.fr0 f1
    replace bn := bn.fr f1 id
    refine load_ptr h1.head rfl ?_
    simp only [add_mk, Nat.zero_add, Nat.add_zero]
    refine load_int bn rfl ?_
    refine load_int bn rfl ?_
    refine load_int bn rfl ?_
    refine load_int bn rfl ?_
    refine F104_call (F104_spec (r := r) h1 hM (by omega) fun w2 f2 => back_int ?_)
    replace h1 := h1.fr0 f2
    replace bn := bn.fr f2 id
    repeat (first | refine Chk1_iff.2 ⟨by rw [h1.head.cell]; rfl, ?_⟩ | refine Chk1_iff.2 ⟨by rw [bn.cell]; rfl, ?_⟩)
    have hml : loc r i % M < M := Nat.mod_lt _ hM
    have hne := h1.ne
    have hlt2 := h1.set.lt
    have hfl2 := h1.head.lt
    have hbn := bn.lt
    have fr2 := (fr.trans f1 fun _ h => h.elim).trans f2 fun _ h => h.elim
    have zz := fr2.size
    refine F54_call (F54_spec h1.set (by omega) fun q3 w3 h3 f3 hq3 => back_ptr ?_)
    rw [show max n (loc r i % M + 1) = n by omega] at h3
    have bn3 := bn.fr f3 (by rintro (e | e) <;> omega)
    have hd3 := h1.head.fr f3 (by rintro (e | e) <;> omega)
    repeat (first | refine Chk1_iff.2 ⟨by rw [hd3.cell]; rfl, ?_⟩ | refine Chk1_iff.2 ⟨by rw [bn3.cell]; rfl, ?_⟩)
    have ei : addI .u64 (i : Int) 1 = ((i + 1 : Nat) : Int) := addI_nat (y := 1) (by omega)
    rw [ei]
    refine ⟨⟨(by trivial), (by trivial), i + 1, q3, _, rfl, by omega, ⟨hd3, h3, hne.1, by omega⟩, fun j => ?_, by omega, by omega, bn3, fr2.trans f3 ?_⟩, by omega⟩
    · show (g' j || decide (j = loc r i % M)) = _
      rw [hg' j, Bool.or_assoc]
      congr 1
      rw [Bool.eq_iff_iff, Bool.or_eq_true, decide_eq_true_iff, decide_eq_true_iff, decide_eq_true_iff]
      constructor
      · rintro (⟨t, h1, h2⟩ | e)
        · exact ⟨t, by omega, h2⟩
        · exact ⟨i, by omega, e⟩
      · rintro ⟨t, h1, h2⟩
        by_cases e : t = i
        · exact .inr (e ▸ h2)
        · exact .inl ⟨t, by omega, h2⟩
    · rintro x (rfl | rfl)
      · exact .inl (.inl rfl)
      · rcases hq' with rfl | hq'
        · exact .inl (.inr rfl)
        · exact .inr hq'
  · have hc := of_decide_eq_false hc
    have : i = K := by omega
    subst this
    have e : g' = plus g M i r := by funext j; exact hg' j
    rw [e] at h1
    exact hk q' w' h1 fr hq'
end Go.Proofs.Ytopdlfecfgimpaa.E
