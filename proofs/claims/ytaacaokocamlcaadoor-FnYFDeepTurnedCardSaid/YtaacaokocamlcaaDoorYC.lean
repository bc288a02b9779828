/-
  A y-fast trie in memory: its buckets; an entry inserted, an entry found.
-/
import Derived.Test.YtaacaokocamlcaaDoorYA
namespace Go.Proofs.YtaacaokocamlcaaDoor.E
open Go
set_option linter.unusedSimpArgs false
set_option linter.unusedVariables false
set_option maxRecDepth 100000
set_option maxHeartbeats 8000000

/-- The greatest key of a key's bucket. -/
def bk (B q : Nat) : Nat := B * (q / B + 1) - 1
theorem bk_lt {B q : Nat} (hB : Bits B) (hq : q < 2 ^ B) : bk B q < 2 ^ B := by
  unfold bk
  rcases hB with rfl | rfl | rfl | rfl
  · have : q < 256 := hq
    show _ < 256; omega
  · have : q < 65536 := hq
    show _ < 65536; omega
  · have : q < 4294967296 := hq
    show _ < 4294967296; omega
  · have : q < 18446744073709551616 := hq
    show _ < 18446744073709551616; omega
theorem bk_near {B q k : Nat} (hB : Bits B) (h : bk B q = k) : q ≤ k ∧ k < q + B := by
  subst h
  unfold bk
  rcases hB with rfl | rfl | rfl | rfl <;> omega
theorem Asc.ge {es : List Itm} (h : Asc es) (h0 : 0 < es.length) : ∀ i (hi : i < es.length), es[0].1 + i ≤ es[i].1
  | 0, _ => by omega
  | i + 1, hi => by
    have h1 := h.ge h0 i (by omega)
    have h2 := h.lt (by omega : i < es.length) hi (by omega)
    omega
theorem Bk.small {B k : Nat} {es : List Itm} {f : Nat → Option Int} (hB : Bits B) (h : Bk es (fun q => if bk B q = k then f q else none)) : es.length ≤ B := by
  rcases Nat.eq_zero_or_pos es.length with h0 | h0
  · omega
  · have near : ∀ i (hi : i < es.length), es[i].1 ≤ k ∧ k < es[i].1 + B := fun i hi => by
      have hm : (es[i].1, es[i].2) ∈ es := List.getElem_mem hi
      have := (h.mem _ _).1 hm
      split at this
      · rename_i e; exact bk_near hB e
      · cases this
    have h1 := h.asc.ge h0 (es.length - 1) (by omega)
    have h2 := (near 0 h0).2
    have h3 := (near (es.length - 1) (by omega)).1
    omega
structure Bd where
  q : Nat
  p : Option Addr
  c : Nat
  es : List Itm
def wrp (q : Nat) : Value := .iface 108 (.pointer (some ⟨q, 0, none⟩))
theorem tas_wrp {q : Nat} {f : Option Addr → W} {w : World} (h : f (some ⟨q, 0, none⟩) w) : TAs (wrp q) 108 (.s (.one .ptr)) f w := ⟨(some ⟨q, 0, none⟩, ()), rfl, h⟩
def YS (t : Nat) (Sx : Nat → Prop) (bd : Nat → Option Bd) (b : Nat) : Prop := b = t ∨ Sx b ∨ ∃ k d, bd k = some d ∧ (b = d.q ∨ bl d.p b)
theorem ifn_wrp (q : Nat) (f : Bool → W) : IfaceNil (wrp q) f = f false := rfl
theorem ifn_EI (x : Itm) (f : Bool → W) : IfaceNil (EI x) f = f false := rfl
structure YH (w : World) (t B : Nat) (s : PSt) (x : Nat) (Sx : Nat → Prop) (xs : XSt) (bd : Nat → Option Bd) : Prop where
  hd : Blk w t 94 [.int .u64 (s.num : Nat), .pointer (some ⟨x, 0, none⟩), .int .u8 (B : Nat)]
  X : XT w x B Sx xs
  xm : ∀ k, xs.m k = (bd k).map fun d => wrp d.q
  bq : ∀ k d, bd k = some d → Blk w d.q 107 [.int .u64 (k : Nat), .slice d.p d.es.length d.c]
  bo : ∀ k d, bd k = some d → Own w 76 d.p d.es.length d.c (d.es.map EI)
  bb : ∀ k d, bd k = some d → Bk d.es fun q => if bk B q = k then s.m q else none
  b0 : ∀ k, bd k = none → ∀ q, bk B q = k → s.m q = none
  dj : ∀ k k' d d', bd k = some d → bd k' = some d' → k ≠ k' → ∀ z, bl d.p z → ¬ bl d'.p z
  sm : xs.num ≤ s.num
  low : ∀ b, YS t Sx bd b → 2 ≤ b
def YT (w : World) (t B : Nat) (S : Nat → Prop) (s : PSt) : Prop := ∃ x Sx xs bd, YH w t B s x Sx xs bd ∧ (∀ b, S b ↔ YS t Sx bd b) ∧ Bits B
section
variable {w : World} {t B x : Nat} {s : PSt} {Sx : Nat → Prop} {xs : XSt} {bd : Nat → Option Bd}
theorem YH.nsx (H : YH w t B s x Sx xs bd) {b u : Nat} {us : List Value} (hB : Blk w b u us) (hu : u ≠ 82 ∧ u ≠ 88 ∧ u ≠ 91) : ¬ Sx b := fun h => by
  rcases H.X.kinds h hB with e | e | e
  · exact hu.1 e
  · exact hu.2.1 e
  · exact hu.2.2 e
/-- The y-fast trie's blocks, by their types. -/
theorem YH.kinds (H : YH w t B s x Sx xs bd) {b u : Nat} {us : List Value} (h : YS t Sx bd b) (hB : Blk w b u us) : u ∈ [94, 82, 88, 91, 107, 76] := by
  rcases h with rfl | h | ⟨k, d, hd, rfl | h⟩
  · have := (hB.unique H.hd).1; subst this; decide
  · rcases H.X.kinds h hB with rfl | rfl | rfl <;> decide
  · have := (hB.unique (H.bq k d hd)).1; subst this; decide
  · obtain ⟨us', hu⟩ := (H.bo k d hd).blk h
    have := (hB.unique hu).1; subst this; decide
theorem YH.fr {S0 : Nat → Prop} {w' : World} (H : YH w t B s x Sx xs bd) (f : Fr S0 w w') (hd : ∀ b, YS t Sx bd b → ¬ S0 b) (h0 : ¬ S0 0) (h1 : ¬ S0 1) : YH w' t B s x Sx xs bd := by
  have hq := fun k d (h : bd k = some d) => (H.bq k d h).fr f (hd _ (.inr (.inr ⟨k, d, h, .inl rfl⟩)))
  refine ⟨H.hd.fr f (hd _ (.inl rfl)), H.X.fr f (fun b hb => hd b (.inr (.inl hb))) h0 h1 fun k v hv => ?_, H.xm, hq, fun k d h => (H.bo k d h).fr f fun b hb => hd b (.inr (.inr ⟨k, d, h, .inr hb⟩)), H.bb, H.b0, H.dj, H.sm, H.low⟩
  rw [H.xm] at hv
  cases hk : bd k with
  | none => rw [hk] at hv; cases hv
  | some d => rw [hk] at hv; cases hv; exact .wrap (hq k d hk)
theorem YH.fr0 {w' : World} (H : YH w t B s x Sx xs bd) (f : Fr (fun _ => False) w w') : YH w' t B s x Sx xs bd := H.fr f (fun _ _ => id) id id
/-- getBucketKey. -/
theorem F58_spec {k : Value → W} {q : Nat} {v0 v1 : Value} (hB : Blk w t 94 [v0, v1, .int .u8 (B : Nat)]) (h : Bits B) (hq : q < 2 ^ B) (hk : k (.int .u64 (bk B q : Nat)) w) : F58 k (some ⟨t, 0, none⟩) (q : Nat) w := by
  unfold F58
  simp only [NN_mk]
  refine load_int (i := 2) hB rfl ?_
  have h64 : B ≤ 64 ∧ 0 < B := by rcases h with rfl | rfl | rfl | rfl <;> decide
  have hq64 : q < 18446744073709551616 := Nat.lt_of_lt_of_le hq (Nat.pow_le_pow_right (n := 2) (by decide) h64.1)
  have e1 : IntKind.wrap .u64 ((B : Nat) : Int) = ((B : Nat) : Int) := wrap_u64 (by omega) (by omega)
  rw [e1]
  refine ⟨by omega, ?_⟩
  have hdiv : q / B ≤ q := Nat.div_le_self _ _
  have hdiv2 : q / B < 2305843009213693952 := by
    rcases h with rfl | rfl | rfl | rfl <;> omega
  have e2 : addI .u64 (quoI .u64 ((q : Nat) : Int) ((B : Nat) : Int)) 1 = ((q / B + 1 : Nat) : Int) := by
    have e0 : quoI .u64 ((q : Nat) : Int) ((B : Nat) : Int) = ((q / B : Nat) : Int) := by rw [quoI_u64 (by omega) (by omega) (by omega), ← Int.natCast_ediv]
    rw [e0]
    generalize q / B = m at *
    rw [addI_u64 (by omega) (by omega)]; rfl
  rw [e2]
  refine bind_intro ?_
  refine load_int (i := 2) hB rfl ?_
  rw [e1]
  refine bind_intro ?_
  have hb : B * (q / B + 1) ≤ 18446744073709551616 ∧ 0 < B * (q / B + 1) := by
    rcases h with rfl | rfl | rfl | rfl <;> omega
  have e3 : subI .u64 (mulI .u64 ((B : Nat) : Int) ((q / B + 1 : Nat) : Int)) 1 = ((bk B q : Nat) : Int) := by
    rw [mulI_def, ← Int.natCast_mul]
    unfold bk
    generalize B * (q / B + 1) = n at hb
    rcases Nat.lt_or_ge n 18446744073709551616 with g | g
    · rw [wrap_u64 (by omega) (by omega), subI_u64 (by omega) (by omega)]; omega
    · have : n = 18446744073709551616 := by omega
      subst this
      decide
  rw [e3]
  exact hk
/-- get. -/
theorem F47_spec {k : Value → W} {q : Nat} (H : YH w t B s x Sx xs bd) (hB : Bits B) (hq : q < 2 ^ B) (hk : ∀ w', Fr (fun _ => False) w w' → k (ovr q (s.m q)) w') : F47 k (some ⟨t, 0, none⟩) (q : Nat) w := by
  unfold F47
  refine F58_call (F58_spec H.hd hB hq (back_int ?_))
  simp only [NN_mk]
  refine load_ptr (i := 1) H.hd rfl ?_
  refine F27_call (H.X.get fun w1 f1 => back_any ?_)
  rw [H.xm]
  cases hb : bd (bk B q) with
  | none =>
    show IfaceNil .nilIface _ w1
    rw [IfaceNil_nil]
    simp only [BIf_true]
    have := hk w1 f1
    rw [H.b0 _ hb q rfl] at this
    exact this
  | some d =>
    show IfaceNil (wrp d.q) _ w1
    have H1 := H.fr0 f1
    rw [ifn_wrp]
    simp only [BIf_false]
    refine tas_wrp ?_
    simp only [NN_mk]
    refine load_slice (i := 1) (H1.bq _ d hb) rfl ?_
    have hsm := (H.bb _ d hb).small hB
    have h64 : B ≤ 64 := by rcases hB with rfl | rfl | rfl | rfl <;> decide
    refine F61_call (F61_spec (H1.bo _ d hb) (by omega) (H1.bb _ d hb) fun w2 f2 => back_any ?_)
    rw [if_pos rfl]
    have := hk w2 (f1.trans f2 fun _ h => h.elim)
    cases hm : s.m q with
    | none =>
      rw [hm] at this
      show IfaceNil .nilIface _ w2
      rw [IfaceNil_nil]
      simp only [BIf_true]
      exact this
    | some v =>
      rw [hm] at this
      show IfaceNil (EI (q, v)) _ w2
      rw [ifn_EI]
      simp only [BIf_false]
      exact this
theorem F37_spec {k : Value → W} {q : Nat} (H : YH w t B s x Sx xs bd) (hB : Bits B) (hq : q < 2 ^ B) (hk : ∀ w', Fr (fun _ => False) w w' → k (ovr q (s.m q)) w') : F37 k (some ⟨t, 0, none⟩) (q : Nat) w := by
  unfold F37
  refine F47_call (F47_spec H hB hq fun w1 f1 => back_any ?_)
  have := hk w1 f1
  cases hm : s.m q with
  | none =>
    rw [hm] at this
    show IfaceNil .nilIface _ w1
    rw [IfaceNil_nil]
    simp only [BIf_true]
    exact this
  | some v =>
    rw [hm] at this
    show IfaceNil (EI (q, v)) _ w1
    rw [ifn_EI]
    simp only [BIf_false]
    exact this
end
end Go.Proofs.YtaacaokocamlcaaDoor.E
