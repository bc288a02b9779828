/-
  deep07Many: many entries, and the steps that insert and ask for them.
-/
import Derived.Test.YtaacaokocamlcaaDoorLA
namespace Go.Proofs.YtaacaokocamlcaaDoor.E
open Go
set_option linter.unusedSimpArgs false
set_option linter.unusedVariables false
set_option maxRecDepth 100000
set_option maxHeartbeats 8000000

def kyi (B first d i : Nat) : Nat := (first + i * d) % 2 ^ B
def its (B first d n : Nat) : List Itm := (List.range n).map fun i => (kyi B first d i, ((i + 1 : Nat) : Int))
theorem its_length (B first d n : Nat) : (its B first d n).length = n := by simp [its]
theorem its_succ (B first d n : Nat) : its B first d (n + 1) = its B first d n ++ [(kyi B first d n, ((n + 1 : Nat) : Int))] := by unfold its; rw [List.range_succ, List.map_append]; rfl
theorem its_get {B first d n i : Nat} (h : i < n) : (its B first d n)[i]? = some (kyi B first d i, ((i + 1 : Nat) : Int)) := by
  unfold its; rw [List.getElem?_map, List.getElem?_range h]; rfl
def ask (k : Nat) : Stp := ⟨3, [], [k]⟩
def many (L : List Itm) (kk kn : Nat) : List Stp := [⟨1, L.take kk, [0]⟩, ⟨1, L.drop kk, [0]⟩, ⟨5, [], [0]⟩] ++ L.map (fun x => ask x.1) ++ [ask kn]
theorem bits_le {B : Nat} (h : Bits B) : B ≤ 64 := by rcases h with rfl | rfl | rfl | rfl <;> decide
theorem ky_eq {B first b i : Nat} (h : Bits B) (hf : first < 18446744073709551616) (hb : b < 18446744073709551616) (hi : i < 18446744073709551616) :
    andI .u64 (addI .u64 (first : Nat) (mulI .u64 (IntKind.wrap .u64 ((i : Nat) : Int)) (orI .u64 (b : Nat) 1))) ((2 ^ B - 1 : Nat) : Int) = ((kyi B first (b ||| 1) i : Nat) : Int) := by
  have hd : b ||| 1 < 18446744073709551616 := Nat.or_lt_two_pow (n := 64) hb (by decide)
  have e1 : orI .u64 ((b : Nat) : Int) 1 = ((b ||| 1 : Nat) : Int) := orI_nat hb (by decide : (1 : Nat) < _)
  rw [e1, wrap_nat, Nat.mod_eq_of_lt hi, mulI_def, ← Int.natCast_mul, wrap_nat]
  have e2 : addI .u64 ((first : Nat) : Int) ((i * (b ||| 1) % 18446744073709551616 : Nat) : Int) = (((first + i * (b ||| 1)) % 18446744073709551616 : Nat) : Int) := by
    show IntKind.wrap .u64 _ = _
    rw [← Int.natCast_add, wrap_nat, Nat.add_mod_mod]
  have hp : 0 < 2 ^ B := Nat.pow_pos (by decide)
  have hp2 : 2 ^ B ≤ 18446744073709551616 := Nat.pow_le_pow_right (n := 2) (by decide) (bits_le h)
  rw [e2, andI_nat (Nat.mod_lt _ (by decide)) (by omega), Nat.and_two_pow_sub_one_eq_mod]
  have hdv : 2 ^ B ∣ 18446744073709551616 := Nat.pow_dvd_pow 2 (bits_le h : B ≤ 64)
  rw [Nat.mod_mod_of_dvd _ hdv]; rfl
theorem run_min {w : World} {f : Int → W} {a b : Nat} (hk : f ((min a b : Nat) : Int) w) : NextT Tryd.prog (builtin .min #[3, 3] 3 [false, true].toArray [.int .i64 (a : Nat), .int .i64 (b : Nat)].toArray) (.s (.one (.int .i64))) f w := by
  refine NextT_int (n := ((min a b : Nat) : Int)) (w' := w) ?_ hk
  show (Sem.run Tryd.prog (do let a ← Builtin.min_ _ _ _; pure (Next.value a)) w) = _
  have := run_min_int2 (P := Tryd.prog) (w := w) #[3, 3] 3 .i64 .i64 (a : Nat) (b : Nat)
  rw [Sem.run_bind, show [Value.int .i64 (a : Nat), .int .i64 (b : Nat)].toArray = #[.int .i64 (a : Nat), .int .i64 (b : Nat)] from rfl, this]
  simp only [Result.andThen_ok, Sem.run_pure]
  congr 3
  split <;> omega
theorem fill33c (o1 o2 o3 : Int) (p1 : Option Addr) (l1 c1 : Nat) (q1 : Option Addr) (m1 d1 : Nat) (p2 : Option Addr) (l2 c2 : Nat) (q2 : Option Addr) (m2 d2 : Nat) (p3 : Option Addr) (l3 c3 : Nat) (q3 : Option Addr) (m3 d3 : Nat) : ∀ i : TypeInfo, i.size = 3 → Instr.fill (fun j => some (j * i.size, i.size)) ((Array.range (3 * i.size)).map (z33.cells[· % z33.cells.size]!)) [(0, .agg #[.int .i64 o1, .slice p1 l1 c1, .slice q1 m1 d1]), (1, .agg #[.int .i64 o2, .slice p2 l2 c2, .slice q2 m2 d2]), (2, .agg #[.int .i64 o3, .slice p3 l3 c3, .slice q3 m3 d3])] = some [.int .i64 o1, .slice p1 l1 c1, .slice q1 m1 d1, .int .i64 o2, .slice p2 l2 c2, .slice q2 m2 d2, .int .i64 o3, .slice p3 l3 c3, .slice q3 m3 d3].toArray := by
  intro i h; rw [h]; kernel_rfl
/-- The loop that asks for all. -/
theorem F8_J2_spec {k : Value → W} {w : World} {B first b n kk : Nat} {lp sp : Option Addr} {lc sl sc : Nat} {pre : List Stp} (hB : Bits B) (hf : first < 18446744073709551616) (hb : b < 18446744073709551616) (hn : n < 1000)
    (hL : SlO ItK w lp n lc (its B first (b ||| 1) n)) (hS : SlO StK w sp sl sc pre) (hsl : sl < 1000)
    (hk : ∀ sp' sc' w', SlO StK w' sp' (sl + n + 1) sc' (pre ++ (its B first (b ||| 1) n).map (fun x => ask x.1) ++ [ask (kyi B first (b ||| 1) n)]) → SlO ItK w' lp n lc (its B first (b ||| 1) n) → (∀ z, bl sp' z → bl sp z ∨ w.heap.size ≤ z) → Fr (fun b => bl sp b) w w' → k (.tuple #[.slice sp' (sl + n + 1) sc', .slice lp n lc]) w') :
    F8_J2 k (first : Nat) (b : Nat) ((2 ^ B - 1 : Nat) : Int) (n : Nat) lp n lc sp sl sc w := by
  unfold F8_J2
  refine F8_L2_rule (fun f1 b1 m1 n1 lp1 ll1 lc1 op ol oc i w' => f1 = (first : Nat) ∧ b1 = (b : Nat) ∧ m1 = ((2 ^ B - 1 : Nat) : Int) ∧ n1 = (n : Nat) ∧ lp1 = lp ∧ ll1 = n ∧ lc1 = lc ∧ ∃ j : Nat, i = j ∧ j ≤ n ∧ ol = sl + j ∧ SlO StK w' op ol oc (pre ++ ((its B first (b ||| 1) n).take j).map (fun x => ask x.1)) ∧ SlO ItK w' lp n lc (its B first (b ||| 1) n) ∧ (∀ z, bl op z → bl sp z ∨ w.heap.size ≤ z) ∧ Fr (fun z => bl sp z) w w')
    (fun _ _ _ n1 _ _ _ _ _ _ i _ => (n1 - i).toNat) ?_ ⟨rfl, rfl, rfl, rfl, rfl, rfl, rfl, 0, rfl, Nat.zero_le _, rfl, by simpa using hS, hL, fun z hz => .inl hz, Fr.refl _ _⟩
  rintro f1 b1 m1 n1 lp1 ll1 lc1 op ol oc i w1 ⟨rfl, rfl, rfl, rfl, e1, rfl, e2, j, rfl, hj, rfl, hO, hL1, hop, fr1⟩
  obtain rfl := e1.symm; obtain rfl := e2.symm
  unfold F8_L2
  by_cases hlt : j < ll1
  rotate_left
  · have : j = ll1 := by omega
    subst this
    rw [decide_eq_false (by omega)]
    simp only [BIf_false]
    rw [ky_eq hB hf hb (by omega)]
    refine bld_ky rfl fun m w2 e2 b2 s2 f2 z2 => ?_
    have hO2 := hO.fr0 f2
    have hL2 := hL1.fr0 f2
    refine add_st (s := ask (kyi B first (b ||| 1) j)) hO2 rfl rfl rfl (Sl.nil _ _ _) s2 (by omega) fun p' c' w3 f3 o3 hp3 => ?_
    rw [show (its B first (b ||| 1) j).take j = its B first (b ||| 1) j from List.take_of_length_le (by rw [its_length]; exact Nat.le_refl _)] at o3
    have hz1 := fr1.size
    refine hk p' c' w3 o3 (hL2.fr f3 hO2.ty (by decide)) (fun z hz => (hp3 z hz).elim (hop z) fun h => .inr (by omega)) ((fr1.trans f2 fun _ h => h.elim).trans f3 fun z hz => ?_)
    exact (hop z hz)
  rw [decide_eq_true (by omega)]
  have hx := its_get (B := B) (first := first) (d := b ||| 1) hlt
  obtain ⟨q, o, rfl, h0, h1⟩ := hL1.sl.get hx
  simp only [BIf_true, NN_mk, Int.toNat_natCast, add_mk]
  refine ⟨by omega, LoadT_int.2 ⟨_, h0, ?_⟩⟩
  refine bld_ky rfl fun m w2 e2 b2 s2 f2 z2 => ?_
  have hO2 := hO.fr0 f2
  have hL2 := hL1.fr0 f2
  refine add_st (s := ask (kyi B first (b ||| 1) j)) hO2 rfl rfl rfl (Sl.nil _ _ _) s2 (by omega) fun p' c' w3 f3 o3 hp3 => ?_
  rw [add_one (by omega)]
  have hz1 := fr1.size
  refine ⟨⟨(by trivial), (by trivial), (by trivial), (by trivial), (by trivial), (by trivial), (by trivial), j + 1, rfl, hlt, rfl, ?_, hL2.fr f3 hO2.ty (by decide), fun z hz => ?_, (fr1.trans f2 fun _ h => h.elim).trans f3 fun z hz => hop z hz⟩, by omega⟩
  · rw [take_snoc hx, List.map_append, ← List.append_assoc]; exact o3
  · rcases hp3 z hz with h | h
    · exact hop z h
    · exact .inr (by omega)
/-- The first three steps. -/
theorem F8_tail {k : Value → W} {w : World} {B first b n kk : Nat} {lp p1 p2 p3 : Option Addr} {lc : Nat} (hB : Bits B) (hf : first < 18446744073709551616) (hb : b < 18446744073709551616) (hn : n < 500) (hkk : kk ≤ n)
    (hL : SlO ItK w lp n lc (its B first (b ||| 1) n)) (h1 : Sl KyK w p1 [0]) (h2 : Sl KyK w p2 [0]) (h3 : Sl KyK w p3 [0])
    (hk : ∀ sp' sc' w', SlO StK w' sp' (n + 4) sc' (many (its B first (b ||| 1) n) kk (kyi B first (b ||| 1) n)) → SlO ItK w' lp n lc (its B first (b ||| 1) n) → (∀ z, bl sp' z → w.heap.size ≤ z) → Fr (fun _ => False) w w' → k (.tuple #[.slice sp' (n + 4) sc', .slice lp n lc]) w') :
    RawT Go.Proofs.Tryd.prog (Instr.buildSlice 25 3 [(0, .agg #[.int .i64 1, .slice (sliceA lp 0 lc 2) (kk - 0) (lc - 0), .slice p1 1 1]), (1, .agg #[.int .i64 1, .slice (sliceA lp kk lc 2) (n - kk) (lc - kk), .slice p2 1 1]), (2, .agg #[.int .i64 5, .slice none 0 0, .slice p3 1 1])].toArray) (.s (.one .slice)) (fun s53p s53l s53c => F8_J2 k (first : Nat) (b : Nat) ((2 ^ B - 1 : Nat) : Int) (n : Nat) lp n lc s53p s53l s53c) w := by
  obtain ⟨i, g1, g2, g3, g4⟩ := inf33
  have hlen := its_length B first (b ||| 1) n
  have hle := hL.le
  refine build_intro und25 g1 g2 (by omega) (by omega) (fill33c _ _ _ _ _ _ _ _ _ _ _ _ _ _ _ _ _ _ _ _ _ i g3) fun w1 f1 b1 z1 => ?_
  have hL1 := hL.fr0 f1
  have a0 : Sl ItK w1 (sliceA lp 0 lc 2) (its B first (b ||| 1) n) := by
    have := hL1.sl.drop (n := 0) (c := lc) (by omega)
    rw [List.drop_zero] at this
    exact this
  have a1 : Sl ItK w1 (sliceA lp 0 lc 2) ((its B first (b ||| 1) n).take kk) := a0.take kk
  have a2 : Sl ItK w1 (sliceA lp kk lc 2) ((its B first (b ||| 1) n).drop kk) := hL1.sl.drop (n := kk) (c := lc) (by omega)
  have l1 : ((its B first (b ||| 1) n).take kk).length = kk - 0 := by rw [List.length_take]; omega
  have l2 : ((its B first (b ||| 1) n).drop kk).length = n - kk := by rw [List.length_drop]; omega
  have hS : SlO StK w1 (some ⟨w.heap.size, 0, none⟩) 3 3 [⟨1, (its B first (b ||| 1) n).take kk, [0]⟩, ⟨1, (its B first (b ||| 1) n).drop kk, [0]⟩, ⟨5, [], [0]⟩] := by
    refine SlO.made b1 rfl (by decide) rfl ?_
    refine Rows.cons (K := StK) (us := [_, _, _]) (vs := [_, _, _, _, _, _]) ⟨_, _, _, _, rfl, by rw [l1]; rfl, rfl, a1, h1.fr0 f1⟩ rfl ?_
    refine Rows.cons (K := StK) (us := [_, _, _]) (vs := [_, _, _]) ⟨_, _, _, _, rfl, by rw [l2]; rfl, rfl, a2, h2.fr0 f1⟩ rfl ?_
    exact Rows.one (K := StK) ⟨_, _, _, _, rfl, rfl, rfl, Sl.nil _ _ _, h3.fr0 f1⟩
  refine F8_J2_spec (kk := kk) hB hf hb (by omega) hL1 hS (by omega) fun sp' sc' w' hS' hL' hsp' f' => ?_
  have e : 3 + n + 1 = n + 4 := by omega
  rw [e] at hS' ⊢
  refine hk sp' sc' w' hS' hL' (fun z hz => (hsp' z hz).elim (fun ⟨a, ha, hz⟩ => by cases ha; exact Nat.le_of_eq hz) fun h => by omega) (f1.trans f' fun z ⟨a, ha, hz⟩ => ?_)
  cases ha; exact .inr (Nat.le_of_eq hz)
theorem F8_J1_spec {k : Value → W} {w : World} {B first b n cut : Nat} (hB : Bits B) (hf : first < 18446744073709551616) (hb : b < 18446744073709551616) (hn : n < 500) (hc : cut < 256)
    (hk : ∀ kk sp sc lp lc w', kk ≤ n → SlO StK w' sp (n + 4) sc (many (its B first (b ||| 1) n) kk (kyi B first (b ||| 1) n)) → SlO ItK w' lp n lc (its B first (b ||| 1) n) → (∀ z, bl sp z → w.heap.size ≤ z) → Fr (fun _ => False) w w' → k (.tuple #[.slice sp (n + 4) sc, .slice lp n lc]) w') :
    F8_J1 k (first : Nat) (b : Nat) (cut : Nat) ((2 ^ B - 1 : Nat) : Int) (n : Nat) w := by
  unfold F8_J1
  refine F8_L1_rule (fun f1 b1 c1 m1 n1 lp ll lc i w' => f1 = (first : Nat) ∧ b1 = (b : Nat) ∧ c1 = (cut : Nat) ∧ m1 = ((2 ^ B - 1 : Nat) : Int) ∧ n1 = (n : Nat) ∧ ∃ j : Nat, i = j ∧ j ≤ n ∧ ll = j ∧ SlO ItK w' lp ll lc (its B first (b ||| 1) j) ∧ (∀ z, bl lp z → w.heap.size ≤ z) ∧ Fr (fun _ => False) w w')
    (fun _ _ _ _ n1 _ _ _ i _ => (n1 - i).toNat) ?_ ⟨rfl, rfl, rfl, rfl, rfl, 0, rfl, Nat.zero_le _, rfl, SlO.nil _ _, (fun b ⟨_, h, _⟩ => by cases h), Fr.refl _ _⟩
  rintro f1 b1 c1 m1 n1 lp ll lc i w1 ⟨rfl, rfl, rfl, rfl, rfl, j, rfl, hj, rfl, hO, hlp, fr1⟩
  unfold F8_L1
  by_cases hlt : ll < n
  · rw [decide_eq_true (by omega)]
    simp only [BIf_true]
    rw [ky_eq hB hf hb (by omega), add_one (by omega)]
    refine bld_it (x := (kyi B first (b ||| 1) ll, ((ll + 1 : Nat) : Int))) rfl fun m w2 e2 b2 s2 f2 z2 => ?_
    refine app_it (hO.fr0 f2) b2 (by omega) fun p' c' w3 f3 o3 hp3 => ?_
    have hz1 := fr1.size
    refine ⟨⟨(by trivial), (by trivial), (by trivial), (by trivial), (by trivial), ll + 1, rfl, hlt, rfl, ?_, fun z hz => ?_, (fr1.trans f2 fun _ h => h.elim).trans f3 fun z hz => .inr (hlp z hz)⟩, by omega⟩
    · rw [its_succ]; exact o3
    · rcases hp3 z hz with h | h
      · exact hlp z h
      · omega
  · have : ll = n := by omega
    subst this
    rw [decide_eq_false (by omega)]
    simp only [BIf_false]
    have e1 : addI .i64 ((ll : Nat) : Int) 1 = ((ll + 1 : Nat) : Int) := add_one (by omega)
    rw [e1]
    refine ⟨by omega, ?_⟩
    have e2 : remI (IntKind.wrap .i64 ((cut : Nat) : Int)) ((ll + 1 : Nat) : Int) = ((cut % (ll + 1) : Nat) : Int) := by
      rw [wrap_i64 (by omega) (by omega), remI_eq (by omega)]; rfl
    rw [e2]
    refine bind_intro ?_
    have hkk : cut % (ll + 1) ≤ ll := by have := Nat.mod_lt cut (show 0 < ll + 1 by omega); omega
    generalize cut % (ll + 1) = kk at hkk
    refine drw_intro fun w2 f2 z2 => ?_
    have f02 := fr1.trans f2 fun _ h => h.elim
    have hO2 := hO.fr0 f2
    have hle := hO.le
    simp only [Int.toNat_natCast]
    refine ⟨by omega, by omega, ?_⟩
    have fin : ∀ {p1 p2 p3 : Option Addr} w3, Fr (fun _ => False) w2 w3 → Sl KyK w3 p1 [0] → Sl KyK w3 p2 [0] → Sl KyK w3 p3 [0] →
        RawT Go.Proofs.Tryd.prog (Instr.buildSlice 25 3 [(0, .agg #[.int .i64 1, .slice (sliceA lp 0 lc 2) (kk - 0) (lc - 0), .slice p1 1 1]), (1, .agg #[.int .i64 1, .slice (sliceA lp kk lc 2) (ll - kk) (lc - kk), .slice p2 1 1]), (2, .agg #[.int .i64 5, .slice none 0 0, .slice p3 1 1])].toArray) (.s (.one .slice)) (fun s53p s53l s53c => F8_J2 k (first : Nat) (b : Nat) ((2 ^ B - 1 : Nat) : Int) (ll : Nat) lp ll lc s53p s53l s53c) w3 := fun w3 f3 a1 a2 a3 =>
      F8_tail hB hf hb hn hkk (hO2.fr0 f3) a1 a2 a3 fun sp' sc' w' h1 h2 h3 f' => hk kk sp' sc' lp lc w' hkk h1 h2 (fun z hz => by have := h3 z hz; have := f02.size; have := f3.size; omega) ((f02.trans f3 fun _ h => h.elim).trans f' fun _ h => h.elim)
    have three : ∀ {f : Option Addr → Nat → Nat → Option Addr → Nat → Nat → Option Addr → Nat → Nat → W}, (∀ {p1 p2 p3 : Option Addr} w3, Fr (fun _ => False) w2 w3 → Sl KyK w3 p1 [0] → Sl KyK w3 p2 [0] → Sl KyK w3 p3 [0] → f p1 1 1 p2 1 1 p3 1 1 w3) →
        RawT Go.Proofs.Tryd.prog (Instr.buildSlice 31 1 [(0, .int .u64 0)].toArray) (.s (.one .slice)) (fun a1 l1 c1 => RawT Go.Proofs.Tryd.prog (Instr.buildSlice 31 1 [(0, .int .u64 0)].toArray) (.s (.one .slice)) (fun a2 l2 c2 => RawT Go.Proofs.Tryd.prog (Instr.buildSlice 31 1 [(0, .int .u64 0)].toArray) (.s (.one .slice)) (fun a3 l3 c3 => f a1 l1 c1 a2 l2 c2 a3 l3 c3))) w2 := fun {f} h => by
      refine bld_ky (x := 0) rfl fun m1 w3 e3 b3 s3 f3 z3 => ?_
      refine bld_ky (x := 0) rfl fun m2 w4 e4 b4 s4 f4 z4 => ?_
      refine bld_ky (x := 0) rfl fun m3 w5 e5 b5 s5 f5 z5 => ?_
      exact h w5 ((f3.trans f4 fun _ h => h.elim).trans f5 fun _ h => h.elim) ((s3.fr0 f4).fr0 f5) (s4.fr0 f5) s5
    have two : ∀ {w3 : World} {f : Option Addr → Nat → Nat → Option Addr → Nat → Nat → W}, (∀ {p2 p3 : Option Addr} w4, Fr (fun _ => False) w3 w4 → Sl KyK w4 p2 [0] → Sl KyK w4 p3 [0] → f p2 1 1 p3 1 1 w4) →
        RawT Go.Proofs.Tryd.prog (Instr.buildSlice 31 1 [(0, .int .u64 0)].toArray) (.s (.one .slice)) (fun a2 l2 c2 => RawT Go.Proofs.Tryd.prog (Instr.buildSlice 31 1 [(0, .int .u64 0)].toArray) (.s (.one .slice)) (fun a3 l3 c3 => f a2 l2 c2 a3 l3 c3)) w3 := fun {w3 f} h => by
      refine bld_ky (x := 0) rfl fun m2 w4 e4 b4 s4 f4 z4 => ?_
      refine bld_ky (x := 0) rfl fun m3 w5 e5 b5 s5 f5 z5 => ?_
      exact h w5 (f4.trans f5 fun _ h => h.elim) (s4.fr0 f5) s5
    refine ⟨?_, ?_⟩
    · refine bld_ky (x := 0) rfl fun m1 w3 e3 b3 s3 f3 z3 => ⟨two fun w5 f5 a1 a2 => ?_, two fun w5 f5 a1 a2 => ?_⟩
      · exact fin w5 (f3.trans f5 fun _ h => h.elim) (s3.fr0 f5) a1 a2
      · exact fin w5 (f3.trans f5 fun _ h => h.elim) (s3.fr0 f5) a2 a1
    · refine ⟨?_, ?_⟩
      · refine bld_ky (x := 0) rfl fun m1 w3 e3 b3 s3 f3 z3 => ⟨two fun w5 f5 a1 a2 => ?_, two fun w5 f5 a1 a2 => ?_⟩
        · exact fin w5 (f3.trans f5 fun _ h => h.elim) a1 (s3.fr0 f5) a2
        · exact fin w5 (f3.trans f5 fun _ h => h.elim) a2 (s3.fr0 f5) a1
      · refine bld_ky (x := 0) rfl fun m1 w3 e3 b3 s3 f3 z3 => ⟨two fun w5 f5 a1 a2 => ?_, two fun w5 f5 a1 a2 => ?_⟩
        · exact fin w5 (f3.trans f5 fun _ h => h.elim) a1 a2 (s3.fr0 f5)
        · exact fin w5 (f3.trans f5 fun _ h => h.elim) a2 a1 (s3.fr0 f5)
theorem F8_spec {k : Value → W} {w : World} {B first b many0 cut : Nat} (hB : Bits B) (hf : first < 18446744073709551616) (hb : b < 18446744073709551616) (hm : many0 < 65536) (hc : cut < 256)
    (hk : ∀ n kk sp sc lp lc w', 0 < n → n ≤ 400 → (B = 8 → n ≤ 250) → kk ≤ n → SlO StK w' sp (n + 4) sc (many (its B first (b ||| 1) n) kk (kyi B first (b ||| 1) n)) → SlO ItK w' lp n lc (its B first (b ||| 1) n) → (∀ z, bl sp z → w.heap.size ≤ z) → Fr (fun _ => False) w w' → k (.tuple #[.slice sp (n + 4) sc, .slice lp n lc]) w') :
    F8 k (B : Nat) (first : Nat) (b : Nat) (many0 : Nat) (cut : Nat) w := by
  unfold F8
  refine F13_call (F13_spec hB (back_int ?_))
  refine ⟨by decide, ?_⟩
  have e1 : addI .i64 1 (remI (IntKind.wrap .i64 ((many0 : Nat) : Int)) 400) = ((1 + many0 % 400 : Nat) : Int) := by
    rw [wrap_i64 (by omega) (by omega), remI_eq (by omega), addI_i64 (by omega) (by omega)]; omega
  rw [e1]
  refine bind_intro ?_
  have hlt := Nat.mod_lt many0 (show 0 < 400 by decide)
  by_cases h8 : B = 8
  · rw [show (((B : Nat) : Int) == 8) = true by rw [h8]; rfl]
    simp only [BIf_true]
    refine run_min (b := 250) ?_
    exact F8_J1_spec hB hf hb (by omega) hc fun kk sp sc lp lc w' g1 g2 g3 g4 g5 => hk _ kk sp sc lp lc w' (by omega) (by omega) (fun _ => by omega) g1 g2 g3 g4 g5
  · rw [show (((B : Nat) : Int) == 8) = false by rw [beq_eq_false_iff_ne]; omega]
    simp only [BIf_false]
    exact F8_J1_spec hB hf hb (by omega) hc fun kk sp sc lp lc w' g1 g2 g3 g4 g5 => hk _ kk sp sc lp lc w' (by omega) (by omega) (fun h => absurd h h8) g1 g2 g3 g4 g5
end Go.Proofs.YtaacaokocamlcaaDoor.E

namespace Go.Proofs.YtaacaokocamlcaaDoor.E
open Go
set_option linter.unusedSimpArgs false
set_option linter.unusedVariables false

theorem odd_dvd : ∀ (B : Nat) {m d : Nat}, d % 2 = 1 → 2 ^ B ∣ m * d → 2 ^ B ∣ m
  | 0, m, d, _, _ => ⟨m, by simp⟩
  | B + 1, m, d, hd, ⟨c, hc⟩ => by
    have h2 : m * d % 2 = 0 := by rw [hc, Nat.pow_succ, Nat.mul_right_comm, Nat.mul_mod_left]
    have hm : m % 2 = 0 := by
      rw [Nat.mul_mod, hd, Nat.mul_one, Nat.mod_mod] at h2; exact h2
    obtain ⟨m', rfl⟩ : ∃ m', m = 2 * m' := ⟨m / 2, by omega⟩
    have : 2 ^ B ∣ m' * d := by
      refine ⟨c, ?_⟩
      refine Nat.eq_of_mul_eq_mul_left (by decide : 0 < 2) ?_
      rw [← Nat.mul_assoc, hc, Nat.pow_succ, Nat.mul_comm (2 ^ B) 2, Nat.mul_assoc]
    obtain ⟨e, he⟩ := odd_dvd B hd this
    exact ⟨e, by rw [he, Nat.pow_succ]; rw [Nat.mul_comm (2 ^ B) 2, Nat.mul_assoc]⟩
theorem or_one_odd (b : Nat) : (b ||| 1) % 2 = 1 := by
  have h : (b ||| 1).testBit 0 = true := by rw [Nat.testBit_or]; simp
  rw [Nat.testBit_zero] at h
  exact of_decide_eq_true h
theorem ky_ne {B first d i j n : Nat} (hB : Bits B) (hd : d % 2 = 1) (hn : n ≤ 400) (h8 : B = 8 → n ≤ 250) (hij : i < j) (hj : j ≤ n) : kyi B first d i ≠ kyi B first d j := by
  intro e
  unfold kyi at e
  have hdv : 2 ^ B ∣ (j - i) * d := by
    rw [Nat.sub_mul]
    have h1 := (Nat.mod_eq_iff_lt (n := 2 ^ B) (m := 0) (by have := Nat.pow_pos (n := B) (show 0 < 2 by decide); omega))
    have h2 := Nat.sub_mod_eq_zero_of_mod_eq e.symm
    rw [show first + j * d - (first + i * d) = j * d - i * d by omega] at h2
    exact Nat.dvd_of_mod_eq_zero h2
  have h3 := Nat.le_of_dvd (by omega) (odd_dvd B hd hdv)
  rcases hB with rfl | rfl | rfl | rfl
  · have := h8 rfl
    have h3 : 256 ≤ j - i := h3
    omega
  · have h3 : 65536 ≤ j - i := h3
    omega
  · have h3 : 4294967296 ≤ j - i := h3
    omega
  · have h3 : 18446744073709551616 ≤ j - i := h3
    omega
def Dis (L : List Itm) : Prop := L.Pairwise fun a b => a.1 ≠ b.1
theorem its_dis {B first d n : Nat} (hB : Bits B) (hd : d % 2 = 1) (hn : n ≤ 400) (h8 : B = 8 → n ≤ 250) : Dis (its B first d n) := by
  refine List.pairwise_iff_getElem.2 fun i j hi hj hij => ?_
  rw [its_length] at hi hj
  have h1 := its_get (B := B) (first := first) (d := d) hi
  have h2 := its_get (B := B) (first := first) (d := d) hj
  rw [List.getElem?_eq_getElem (by rw [its_length]; exact hi)] at h1
  rw [List.getElem?_eq_getElem (by rw [its_length]; exact hj)] at h2
  rw [Option.some.inj h1, Option.some.inj h2]
  exact ky_ne hB hd hn h8 hij (by omega)
theorem its_other {B first d n : Nat} (hB : Bits B) (hd : d % 2 = 1) (hn : n ≤ 400) (h8 : B = 8 → n ≤ 250) : ∀ x ∈ its B first d n, x.1 ≠ kyi B first d n := fun x hx => by
  unfold its at hx
  obtain ⟨i, hi, rfl⟩ := List.mem_map.1 hx
  rw [List.mem_range] at hi
  exact ky_ne hB hd hn h8 hi (Nat.le_refl _)
theorem its_lt {B first d n : Nat} : ∀ x ∈ its B first d n, x.1 < 2 ^ B := fun x hx => by
  unfold its at hx
  obtain ⟨i, hi, rfl⟩ := List.mem_map.1 hx
  exact Nat.mod_lt _ (Nat.pow_pos (by decide))
theorem insAll_old : ∀ (L : List Itm) (s : PSt) (q : Nat), (∀ x ∈ L, x.1 ≠ q) → (s.insAll L).m q = s.m q
  | [], s, q, _ => rfl
  | x :: L, s, q, h => by
    show ((s.ins x).insAll L).m q = _
    rw [insAll_old L _ q fun y hy => h y (List.mem_cons_of_mem _ hy)]
    exact if_neg fun e => h x (List.mem_cons_self ..) e.symm
theorem insAll_new : ∀ (L : List Itm) (s : PSt), Dis L → ∀ x ∈ L, (s.insAll L).m x.1 = some x.2
  | [], s, _, x, hx => by cases hx
  | y :: L, s, hD, x, hx => by
    show ((s.ins y).insAll L).m x.1 = _
    obtain ⟨h1, h2⟩ := List.pairwise_cons.1 hD
    rcases List.mem_cons.1 hx with rfl | hx
    · rw [insAll_old L _ _ fun z hz => (h1 z hz).symm]
      exact if_pos rfl
    · exact insAll_new L _ h2 x hx
theorem insAll_count : ∀ (L : List Itm) (s : PSt), Dis L → (∀ x ∈ L, s.m x.1 = none) → (s.insAll L).num = s.num + L.length
  | [], s, _, _ => rfl
  | y :: L, s, hD, hn => by
    show ((s.ins y).insAll L).num = _
    obtain ⟨h1, h2⟩ := List.pairwise_cons.1 hD
    rw [insAll_count L _ h2 fun x hx => by
      show (if x.1 = y.1 then some y.2 else s.m x.1) = none
      rw [if_neg (h1 x hx).symm]; exact hn x (List.mem_cons_of_mem _ hx)]
    show s.num + (if s.m y.1 = none then 1 else 0) + _ = _
    rw [if_pos (hn y (List.mem_cons_self ..)), List.length_cons]; omega
theorem insAll_mn : ∀ (L : List Itm) (s : PSt), (∃ a, (s.insAll L).mn = some a ∧ (s.mn = some a ∨ ∃ x ∈ L, x.1 = a) ∧ (∀ b, s.mn = some b → a ≤ b) ∧ ∀ x ∈ L, a ≤ x.1) ∨ (L = [] ∧ s.mn = none)
  | [], s => by
    cases h : s.mn with
    | none => exact .inr ⟨rfl, rfl⟩
    | some a => exact .inl ⟨a, h, .inl rfl, fun b hb => by cases hb; exact Nat.le_refl _, fun x hx => by cases hx⟩
  | x :: L, s => by
    left
    rcases insAll_mn L (s.ins x) with ⟨a, h1, h2, h3, h4⟩ | ⟨_, h⟩
    · refine ⟨a, h1, ?_, fun b hb => ?_, fun y hy => ?_⟩
      · rcases h2 with h2 | ⟨y, hy, e⟩
        · have h2 : some (lo s.mn x.1) = some a := h2
          cases hm : s.mn with
          | none => rw [hm] at h2; cases h2; exact .inr ⟨x, List.mem_cons_self .., rfl⟩
          | some b =>
            rw [hm] at h2
            have h2 : (if x.1 < b then x.1 else b) = a := Option.some.inj h2
            split at h2
            · exact .inr ⟨x, List.mem_cons_self .., h2⟩
            · exact .inl (by rw [h2])
        · exact .inr ⟨y, List.mem_cons_of_mem _ hy, e⟩
      · have := h3 (lo s.mn x.1) rfl
        rw [hb] at this
        have : a ≤ if x.1 < b then x.1 else b := this
        split at this <;> omega
      · rcases List.mem_cons.1 hy with rfl | hy
        · have := h3 (lo s.mn y.1) rfl
          cases hm : s.mn with
          | none => rw [hm] at this; exact this
          | some b =>
            rw [hm] at this
            have : a ≤ if y.1 < b then y.1 else b := this
            split at this <;> omega
        · exact h4 y hy
    · exact absurd h (by show some _ ≠ none; simp)
theorem insAll_mx : ∀ (L : List Itm) (s : PSt), (∃ a, (s.insAll L).mx = some a ∧ (s.mx = some a ∨ ∃ x ∈ L, x.1 = a) ∧ (∀ b, s.mx = some b → b ≤ a) ∧ ∀ x ∈ L, x.1 ≤ a) ∨ (L = [] ∧ s.mx = none)
  | [], s => by
    cases h : s.mx with
    | none => exact .inr ⟨rfl, rfl⟩
    | some a => exact .inl ⟨a, h, .inl rfl, fun b hb => by cases hb; exact Nat.le_refl _, fun x hx => by cases hx⟩
  | x :: L, s => by
    left
    rcases insAll_mx L (s.ins x) with ⟨a, h1, h2, h3, h4⟩ | ⟨_, h⟩
    · refine ⟨a, h1, ?_, fun b hb => ?_, fun y hy => ?_⟩
      · rcases h2 with h2 | ⟨y, hy, e⟩
        · have h2 : some (hi s.mx x.1) = some a := h2
          cases hm : s.mx with
          | none => rw [hm] at h2; cases h2; exact .inr ⟨x, List.mem_cons_self .., rfl⟩
          | some b =>
            rw [hm] at h2
            have h2 : (if b < x.1 then x.1 else b) = a := Option.some.inj h2
            split at h2
            · exact .inr ⟨x, List.mem_cons_self .., h2⟩
            · exact .inl (by rw [h2])
        · exact .inr ⟨y, List.mem_cons_of_mem _ hy, e⟩
      · have := h3 (hi s.mx x.1) rfl
        rw [hb] at this
        have : (if b < x.1 then x.1 else b) ≤ a := this
        split at this <;> omega
      · rcases List.mem_cons.1 hy with rfl | hy
        · have := h3 (hi s.mx y.1) rfl
          cases hm : s.mx with
          | none => rw [hm] at this; exact this
          | some b =>
            rw [hm] at this
            have : (if b < y.1 then y.1 else b) ≤ a := this
            split at this <;> omega
        · exact h4 y hy
    · exact absurd h (by show some _ ≠ none; simp)
/-! ## The runs -/
theorem xrun_append : ∀ (a b : List Stp) (s : PSt), xrun s (a ++ b) = xrun s a ++ xrun (xend s a) b
  | [], b, s => rfl
  | x :: a, b, s => by show _ :: xrun _ (a ++ b) = _ :: _ ++ _; rw [xrun_append a b]; rfl
theorem yrun_append : ∀ (a b : List Stp) (s : PSt), yrun s (a ++ b) = yrun s a ++ yrun (yend s a) b
  | [], b, s => rfl
  | x :: a, b, s => by show _ :: yrun _ (a ++ b) = _ :: _ ++ _; rw [yrun_append a b]; rfl
theorem xask (s : PSt) (q : Nat) : xstep s (ask q) = (s, fnd s q) := rfl
theorem yask (s : PSt) (q : Nat) : ystep s (ask q) = (s, fnd s q) := rfl
theorem xrun_asks : ∀ (L : List Itm) (s : PSt), xrun s (L.map fun x => ask x.1) = L.map (fun x => fnd s x.1) ∧ xend s (L.map fun x => ask x.1) = s
  | [], s => ⟨rfl, rfl⟩
  | x :: L, s => by
    obtain ⟨h1, h2⟩ := xrun_asks L s
    refine ⟨?_, h2⟩
    show fnd s x.1 :: xrun s (L.map fun x => ask x.1) = _
    rw [h1]; rfl
theorem yrun_asks : ∀ (L : List Itm) (s : PSt), yrun s (L.map fun x => ask x.1) = L.map (fun x => fnd s x.1) ∧ yend s (L.map fun x => ask x.1) = s
  | [], s => ⟨rfl, rfl⟩
  | x :: L, s => by
    obtain ⟨h1, h2⟩ := yrun_asks L s
    refine ⟨?_, h2⟩
    show fnd s x.1 :: yrun s (L.map fun x => ask x.1) = _
    rw [h1]; rfl
theorem insAll_cut (s : PSt) (L : List Itm) (kk : Nat) : (s.insAll (L.take kk)).insAll (L.drop kk) = s.insAll L := by
  unfold PSt.insAll; rw [← List.foldl_append, List.take_append_drop]
theorem xrun_many (L : List Itm) (kk kn : Nat) : xrun PSt.new (many L kk kn) = [⟨[], 0, false⟩, ⟨[], 0, false⟩, ⟨[], (PSt.new.insAll L).num, false⟩] ++ L.map (fun x => fnd (PSt.new.insAll L) x.1) ++ [fnd (PSt.new.insAll L) kn] ∧ xend PSt.new (many L kk kn) = PSt.new.insAll L := by
  have e : xend PSt.new [⟨1, L.take kk, [0]⟩, ⟨1, L.drop kk, [0]⟩, ⟨5, [], [0]⟩] = PSt.new.insAll L := insAll_cut PSt.new L kk
  have e3 : xrun PSt.new [⟨1, L.take kk, [0]⟩, ⟨1, L.drop kk, [0]⟩, ⟨5, [], [0]⟩] = [⟨[], 0, false⟩, ⟨[], 0, false⟩, ⟨[], ((PSt.new.insAll (L.take kk)).insAll (L.drop kk)).num, false⟩] := rfl
  unfold many
  refine ⟨?_, ?_⟩
  · rw [xrun_append, xrun_append, e3, insAll_cut]
    have ee : xend PSt.new ([⟨1, L.take kk, [0]⟩, ⟨1, L.drop kk, [0]⟩, ⟨5, [], [0]⟩] ++ L.map fun x => ask x.1) = PSt.new.insAll L := by
      unfold xend
      rw [List.foldl_append]
      have := (xrun_asks L (PSt.new.insAll L)).2
      rw [← e] at this ⊢
      exact this
    rw [e, ee, (xrun_asks L _).1]; rfl
  · unfold xend
    rw [List.foldl_append, List.foldl_append]
    show xend (xend (xend PSt.new _) _) [ask kn] = _
    rw [e, (xrun_asks L _).2]; rfl
theorem yrun_many (L : List Itm) (kk kn : Nat) : ∃ a b, yrun PSt.new (many L kk kn) = [a, b, ⟨[], (PSt.new.insAll L).num, false⟩] ++ L.map (fun x => fnd (PSt.new.insAll L) x.1) ++ [fnd (PSt.new.insAll L) kn] := by
  have e : yend PSt.new [⟨1, L.take kk, [0]⟩, ⟨1, L.drop kk, [0]⟩, ⟨5, [], [0]⟩] = PSt.new.insAll L := insAll_cut PSt.new L kk
  have e3 : ∃ a b, yrun PSt.new [⟨1, L.take kk, [0]⟩, ⟨1, L.drop kk, [0]⟩, ⟨5, [], [0]⟩] = [a, b, ⟨[], ((PSt.new.insAll (L.take kk)).insAll (L.drop kk)).num, false⟩] := ⟨_, _, rfl⟩
  obtain ⟨a, b, e3⟩ := e3
  refine ⟨a, b, ?_⟩
  unfold many
  rw [yrun_append, yrun_append, e3, insAll_cut]
  have ee : yend PSt.new ([⟨1, L.take kk, [0]⟩, ⟨1, L.drop kk, [0]⟩, ⟨5, [], [0]⟩] ++ L.map fun x => ask x.1) = PSt.new.insAll L := by
    unfold yend
    rw [List.foldl_append]
    have := (yrun_asks L (PSt.new.insAll L)).2
    rw [← e] at this ⊢
    exact this
  rw [e, ee, (yrun_asks L _).1]; rfl
theorem many_length (L : List Itm) (kk kn : Nat) : (many L kk kn).length = L.length + 4 := by simp [many]
theorem many_ops {B : Nat} {L : List Itm} {kk kn : Nat} (hL : ∀ x ∈ L, x.1 < 2 ^ B) (hk : kn < 2 ^ B) : ∀ s ∈ many L kk kn, Op2 s ∧ (∀ x ∈ s.items, x.1 < 2 ^ B) ∧ s.keys.headD 0 < 2 ^ B := by
  have h0 : (0 : Nat) < 2 ^ B := Nat.pow_pos (by decide)
  intro s hs
  unfold many at hs
  simp only [List.mem_append, List.mem_cons, List.not_mem_nil, or_false, List.mem_map] at hs
  rcases hs with ((rfl | rfl | rfl) | ⟨x, hx, rfl⟩) | rfl
  · exact ⟨.inl rfl, fun x hx => hL x (List.mem_of_mem_take hx), h0⟩
  · exact ⟨.inl rfl, fun x hx => hL x (List.mem_of_mem_drop hx), h0⟩
  · exact ⟨.inr (.inr rfl), (fun x hx => by cases hx), h0⟩
  · exact ⟨.inr (.inl rfl), (fun x hx => by cases hx), hL x hx⟩
  · exact ⟨.inr (.inl rfl), (fun x hx => by cases hx), hk⟩
theorem tot_many (L : List Itm) (kk kn : Nat) : tot (many L kk kn) ≤ 2 * L.length := by
  have h1 : ∀ M : List Itm, tot (M.map fun x => ask x.1) = 0 := fun M => by
    induction M with
    | nil => rfl
    | cons x M ih => exact ih
  unfold many
  rw [tot_append, tot_append, h1]
  show 0 + (L.take kk).length + (L.drop kk).length + 0 + 0 + (0 + 0) ≤ _
  rw [List.length_take, List.length_drop]; omega
theorem Op2.one {s : Stp} (h : Op2 s) : Op1 s := by rcases h with h | h | h; exact .inl h; exact .inr (.inl h); exact .inr (.inr (.inl h))
end Go.Proofs.YtaacaokocamlcaaDoor.E
