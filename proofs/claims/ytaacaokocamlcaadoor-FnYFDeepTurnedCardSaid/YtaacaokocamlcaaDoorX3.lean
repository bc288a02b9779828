/-
  An x-fast trie in memory: its tables, its layers, its nodes; the search for the deepest prefix.
-/
import Derived.Test.YtaacaokocamlcaaDoorX1
import Derived.Test.YtaacaokocamlcaaDoorFnsB
import Derived.Test.YtaacaokocamlcaaDoorMap
namespace Go.Proofs.YtaacaokocamlcaaDoor.E
open Go
set_option linter.unusedSimpArgs false
set_option linter.unusedVariables false
set_option maxRecDepth 100000
set_option maxHeartbeats 4000000

/-! ## Numbers -/
theorem and_hi {x j : Nat} (hx : x < 18446744073709551616) (hj : j < 64) : x &&& (18446744073709551616 - 2 ^ j) = x / 2 ^ j * 2 ^ j := by
  apply Nat.eq_of_testBit_eq
  intro i
  have e : 18446744073709551616 - 2 ^ j = (2 ^ (64 - j) - 1) * 2 ^ j := by
    rw [Nat.sub_mul, ← Nat.pow_add, show 64 - j + j = 64 by omega, Nat.one_mul]
  rw [Nat.testBit_and, e, Nat.testBit_mul_two_pow, Nat.testBit_mul_two_pow, Nat.testBit_two_pow_sub_one, Nat.testBit_div_two_pow]
  by_cases h : j ≤ i
  · rw [decide_eq_true h, Bool.true_and, Bool.true_and, show i - j + j = i by omega]
    by_cases h2 : i - j < 64 - j
    · rw [decide_eq_true h2, Bool.and_true]
    · rw [decide_eq_false h2, Bool.and_false]
      rw [Nat.testBit_lt_two_pow (Nat.lt_of_lt_of_le hx (Nat.pow_le_pow_right (n := 2) (by decide) (show 64 ≤ i by omega)))]
  · rw [decide_eq_false h, Bool.false_and, Bool.false_and, Bool.and_false]
theorem and_one {x t : Nat} : (x &&& 2 ^ t) / 2 ^ t = x / 2 ^ t % 2 := by
  apply Nat.eq_of_testBit_eq
  intro i
  rw [Nat.testBit_div_two_pow, Nat.testBit_and, Nat.testBit_two_pow]
  rw [show (2 : Nat) = 2 ^ 1 from rfl, Nat.testBit_mod_two_pow, ← show (2 : Nat) = 2 ^ 1 from rfl, Nat.testBit_div_two_pow]
  by_cases h : i = 0
  · subst h; simp
  · rw [decide_eq_false (show ¬ t = i + t by omega), decide_eq_false (show ¬ i < 1 by omega), Bool.and_false, Bool.false_and]
/-- A prefix as the layers have it. -/
def mk (B i p : Nat) : Nat := p * 2 ^ (B - i)
theorem mk_pre {B i k : Nat} (hB : B ≤ 64) (hi : i < B) (hk : k < 18446744073709551616) : k &&& (18446744073709551616 - 2 ^ (B - (i + 1))) = mk B (i + 1) (pre B (i + 1) k) := and_hi hk (by omega)
theorem mk_inj {B i p q : Nat} (h : mk B i p = mk B i q) : p = q := Nat.eq_of_mul_eq_mul_right (Nat.pow_pos (by decide)) h

/-! ## Memory -/
structure Tabs (w : World) : Prop where
  sz : 1 < w.heap.size
  ps : ∀ i, i < 64 → w.cell? ⟨0, i, none⟩ = some (.int .u64 ((2 ^ (63 - i) : Nat) : Int))
  ms : ∀ i, i < 64 → w.cell? ⟨1, i, none⟩ = some (.int .u64 ((18446744073709551616 - 2 ^ (63 - i) : Nat) : Int))
theorem Tabs.fr {S : Nat → Prop} {w w' : World} (h : Tabs w) (f : Fr S w w') (h0 : ¬ S 0) (h1 : ¬ S 1) : Tabs w' :=
  ⟨Nat.lt_of_lt_of_le h.sz f.size, fun i hi => (f.cell (a := ⟨0, i, none⟩) (by have := h.sz; show 0 < _; omega) h0).trans (h.ps i hi), fun i hi => (f.cell (a := ⟨1, i, none⟩) h.sz h1).trans (h.ms i hi)⟩
def oA (o : Option Nat) : Option Addr := o.map fun x => ⟨x, 0, none⟩
def pO (o : Option Nat) : Value := .pointer (oA o)
@[simp] theorem oA_some (x : Nat) : oA (some x) = some ⟨x, 0, none⟩ := rfl
@[simp] theorem oA_none : oA none = none := rfl
theorem oA_inj {x y : Option Nat} : oA x = oA y ↔ x = y := by
  cases x <;> cases y <;> simp [oA]
def kU (n : Int) : Value := .int .u64 n
theorem und22 : Tryd.prog.underlying 22 = some (.int .u64) := by kernel_rfl
theorem und88 : Tryd.prog.underlying 88 = some (.map 22 80) := by kernel_rfl
theorem und79 : Tryd.prog.underlying 79 = some (.slice 88) := by kernel_rfl
theorem und80 : Tryd.prog.underlying 80 = some (.pointer 91) := by kernel_rfl
theorem inf80 : ∃ i, Tryd.prog.info? 80 = some i ∧ i.zero = some (.pointer none) := ⟨_, rfl, by kernel_rfl⟩
theorem zero80 (w : World) : (zeroValue 80).run Tryd.prog w = .ok (.pointer none) w := by obtain ⟨i, h1, h2⟩ := inf80; exact zero_of h1 h2 w
theorem keyU : KeyOk Tryd.prog 22 kU := keyOk_int und22
theorem look_pb {w : World} {b : Nat} {l : List (Int × Value)} (h : MapB w b kU l) {a : Int} {o : Option Nat} (hg : getL a l = o.map fun x => pO (some x)) {f : Option Addr → Bool → W} (hk : f (oA o) o.isSome w) :
    RawS Tryd.prog (Instr.lookup 88 (.map (some b)) (.int .u64 a) true) (.tup [(.one .ptr), (.one .bool)]) f w := by
  have hr := lookup_run und88 keyU (zero80 w) h a true
  rw [hg] at hr
  cases o with
  | none => exact ⟨(none, false, ()), hr, hk⟩
  | some x => exact ⟨(some ⟨x, 0, none⟩, true, ()), hr, hk⟩
theorem look_p {w : World} {b : Nat} {l : List (Int × Value)} (h : MapB w b kU l) {a : Int} {o : Option Nat} (hg : getL a l = o.map fun x => pO (some x)) {f : Option Addr → W} (hk : f (oA o) w) :
    RawS Tryd.prog (Instr.lookup 88 (.map (some b)) (.int .u64 a) false) (.s (.one .ptr)) f w := by
  have hr := lookup_run und88 keyU (zero80 w) h a false
  rw [hg] at hr
  cases o with
  | none => exact ⟨(none, ()), hr, hk⟩
  | some x => exact ⟨(some ⟨x, 0, none⟩, ()), hr, hk⟩
/-- The layers: which node a prefix has. -/
structure Lay (w : World) (ls : Nat) (B : Nat) (mm : Nat → Nat) (N : Nd) : Prop where
  b64 : B ≤ 64
  ly : Blk w ls 88 ((List.range B).map fun i => .map (some (mm i)))
  mp : ∀ i, i < B → ∃ l, MapB w (mm i) kU l ∧ ∀ p, getL ((mk B (i + 1) p : Nat) : Int) l = (N (i + 1) p).map fun x => pO (some x)
  mi : ∀ i j, i < B → j < B → mm i = mm j → i = j
theorem Lay.fr {S : Nat → Prop} {w w' : World} {ls B : Nat} {mm : Nat → Nat} {N : Nd} (h : Lay w ls B mm N) (f : Fr S w w') (h1 : ¬ S ls) (h2 : ∀ i, i < B → ¬ S (mm i)) : Lay w' ls B mm N :=
  ⟨h.b64, h.ly.fr f h1, fun i hi => by obtain ⟨l, a, b⟩ := h.mp i hi; exact ⟨l, a.fr f (h2 i hi), b⟩, h.mi⟩
theorem Lay.map {w : World} {ls B : Nat} {mm : Nat → Nat} {N : Nd} (h : Lay w ls B mm N) {i : Nat} (hi : i < B) : w.cell? ⟨ls, i, none⟩ = some (.map (some (mm i))) := by
  rw [h.ly.cell, List.getElem?_map, List.getElem?_range hi]; rfl
theorem back_ip {f : Int → Option Addr → W} {n : Int} {p : Option Addr} {w : World} (h : f n p w) : Back (.tup [(.one (.int .i64)), (.one .ptr)]) f (.returned (.tuple #[.int .i64 n, .pointer p])) w := ⟨(n, p, ()), rfl, h⟩
/-- binarySearchHashMaps. -/
theorem F51_spec {k : Value → W} {w : World} {ls B key : Nat} {mm : Nat → Nat} {N c : Nd} {mn mx : Option Nat} (T : Tabs w) (L : Lay w ls B mm N) (H : T0 B N c mn mx) (hkey : key < 2 ^ B) (hno : N B key = none)
    (hk : ∀ i x w', i < B → N i (pre B i key) = some x → N (i + 1) (pre B (i + 1) key) = none → Fr (fun _ => False) w w' → k (.tuple #[.int .i64 (i : Nat), .pointer (if i = 0 then none else some ⟨x, 0, none⟩)]) w') : F51 k (some ⟨ls, 0, none⟩) B B (key : Nat) w := by
  have hB := L.b64
  have hB0 := H.b0
  have hk64 : key < 18446744073709551616 := Nat.lt_of_lt_of_le hkey (Nat.pow_le_pow_right (n := 2) (by decide) hB)
  unfold F51
  refine bind_intro (bind_intro ?_)
  rw [subI_i64 (by omega) (by omega), subI_i64 (by omega) (by omega)]
  obtain ⟨r, hr⟩ := H.rt
  refine F51_L1_rule (fun lp ll lc key6 low high diff node w' => lp = some ⟨ls, 0, none⟩ ∧ ll = B ∧ key6 = (key : Nat) ∧ diff = (64 : Int) - (B : Nat) ∧ ∃ lo hn : Nat, low = (lo : Nat) ∧ high = (hn : Nat) - 1 ∧ lo ≤ hn ∧ hn ≤ B ∧ (∃ x, N lo (pre B lo key) = some x ∧ node = (if lo = 0 then none else some ⟨x, 0, none⟩)) ∧ (hn < B → N (hn + 1) (pre B (hn + 1) key) = none) ∧ Fr (fun _ => False) w w')
    (fun _ _ _ _ low high _ _ _ => (high + 1 - low).toNat) ?_ ⟨rfl, rfl, rfl, rfl, 0, B, rfl, rfl, Nat.zero_le _, Nat.le_refl _, ⟨r, by rw [pre_zero hkey]; exact hr, rfl⟩, fun h => by omega, Fr.refl _ _⟩
  rintro lp ll lc key6 low high diff node w1 ⟨rfl, rfl, rfl, rfl, lo, hn, rfl, rfl, hle, hhB, ⟨x, hx, hnode⟩, hno', f⟩
  unfold F51_L1
  by_cases hlt : lo < hn
  · rw [decide_eq_true (by omega)]
    simp only [BIf_true]
    refine ⟨by decide, bind_intro ?_⟩
    have em : quoI .i64 (addI .i64 ((lo : Nat) : Int) ((hn : Nat) - 1)) 2 = (((lo + hn - 1) / 2 : Nat) : Int) := by
      rw [addI_i64 (by omega) (by omega), quoI_i64 (by omega) (by omega) (by omega)]; omega
    rw [em]
    have hm1 : lo ≤ (lo + hn - 1) / 2 := by omega
    have hm2 : (lo + hn - 1) / 2 < hn := by omega
    generalize (lo + hn - 1) / 2 = m at hm1 hm2
    refine drw_intro fun w2 f2 z2 => ?_
    have f02 := f.trans f2 fun _ h => h.elim
    have L2 := L.fr f02 id fun _ _ => id
    have T2 := T.fr f02 id id
    obtain ⟨l, hM, hl⟩ := L2.mp m (by omega)
    have e1 : addI .i64 ((64 : Int) - (ll : Nat)) ((m : Nat) : Int) = ((64 - ll + m : Nat) : Int) := by rw [addI_i64 (by omega) (by omega)]; omega
    rw [e1]
    simp only [NN_mk, Int.toNat_natCast]
    refine ⟨by omega, LoadT_map.2 ⟨_, by rw [add_mk, Nat.zero_add]; exact L2.map (by omega), ?_⟩⟩
    refine ⟨by omega, LoadT_int.2 ⟨_, by rw [add_mk, Nat.zero_add]; exact T2.ms (64 - ll + m) (by omega), ?_⟩⟩
    have e2 : andI .u64 ((key : Nat) : Int) ((18446744073709551616 - 2 ^ (63 - (64 - ll + m)) : Nat) : Int) = ((mk ll (m + 1) (pre ll (m + 1) key) : Nat) : Int) := by
      have h1 : 0 < 2 ^ (63 - (64 - ll + m)) := Nat.pow_pos (by decide)
      rw [show 63 - (64 - ll + m) = ll - (m + 1) by omega] at h1 ⊢
      have h2 : BitVec.toNat (BitVec.ofInt IntKind.u64.bits ((key : Nat) : Int)) = key := toNat_ofInt_nat .u64 key hk64
      have h3 : BitVec.toNat (BitVec.ofInt IntKind.u64.bits ((18446744073709551616 - 2 ^ (ll - (m + 1)) : Nat) : Int)) = 18446744073709551616 - 2 ^ (ll - (m + 1)) := toNat_ofInt_nat .u64 _ (by show _ < 18446744073709551616; omega)
      unfold andI
      rw [BitVec.toNat_and, h2, h3, mk_pre hB (by omega) hk64]
      refine wrap_u64 (by omega) ?_
      rw [← mk_pre hB (by omega) hk64]
      have := Nat.and_le_left (n := key) (m := 18446744073709551616 - 2 ^ (ll - (m + 1)))
      omega
    rw [e2]
    refine look_pb hM (hl _) ?_
    refine ⟨by rw [add_mk, Nat.zero_add]; exact T2.ms (64 - ll + m) (by omega), ?_⟩
    cases hNm : N (m + 1) (pre ll (m + 1) key) with
    | some y =>
      simp only [Option.isSome_some, BIf_true]
      refine ⟨⟨(by trivial), (by trivial), (by trivial), (by trivial), m + 1, hn, add_one (by omega), rfl, by omega, hhB, ⟨y, hNm, by simp⟩, hno', f02⟩, by rw [add_one (by omega)]; omega⟩
    | none =>
      simp only [Option.isSome_none, BIf_false]
      have e3 : subI .i64 ((m : Nat) : Int) 1 = ((m : Nat) : Int) - 1 := subI_i64 (by omega) (by omega)
      refine ⟨⟨(by trivial), (by trivial), (by trivial), (by trivial), lo, m, rfl, e3, hm1, by omega, ⟨x, hx, hnode⟩, fun _ => hNm, f02⟩, by rw [e3]; omega⟩
  · have : lo = hn := by omega
    subst this
    rw [decide_eq_false (by omega)]
    simp only [BIf_false]
    have hlB : lo < ll := by
      rcases Nat.lt_or_ge lo ll with h | h
      · exact h
      · have : lo = ll := by omega
        subst this
        rw [pre_all, hno] at hx; cases hx
    rw [hnode]
    exact hk lo x w1 hlB hx (hno' hlB) f
end Go.Proofs.YtaacaokocamlcaaDoor.E
