/-
  Range trees of skip lists: bundles; a skip list's get and insert of one.
-/
import Derived.Test.YtfokodpnoiilbaaGreatRR
import Derived.Test.YtfokodpnoiilbaaGreatS8
import Derived.Test.YtfokodpnoiilbaaGreatFnsD
import Derived.Test.YtfokodpnoiilbaaGreatFnsE
namespace Go.Proofs.YtfokodpnoiilbaaGreat.E
open Go
set_option linter.unusedSimpArgs false
set_option linter.unusedVariables false
set_option maxRecDepth 100000
set_option maxHeartbeats 8000000

theorem SK.key_congr {key key' : Value → Int} {w : World} {sl : Nat} {F : Nat → Prop} {vs : List Value} (K : SK key w sl F vs) (h : ∀ v ∈ vs, key v = key' v) : SK key' w sl F vs := by
  obtain ⟨ns, g, M, L, h', cb, pb, d, c, s, rfl, rfl⟩ := K
  refine ⟨ns, g, M, L, h', cb, pb, d, c, { s with so := ?_ }, rfl, rfl⟩
  have hh : ∀ x ∈ ns, key (g.en x) = key' (g.en x) := fun x hx => h _ (List.mem_map_of_mem hx)
  exact List.Pairwise.imp_of_mem (fun {a b} ha hb hab => by
    have : key (g.en a) < key (g.en b) := hab
    show key' (g.en a) < key' (g.en b)
    rw [← hh a ha, ← hh b hb]; exact this) s.so
theorem CmpOk.fr {key : Value → Int} {F : Nat → Prop} {w w2 : World} {vs : List Value} {q : Value} {kq : Int} (h : CmpOk key F w vs q kq) (f : Fr F w w2) : CmpOk key F w2 vs q kq := fun w' f' => h w' (f.trans f' fun b hb => .inl hb)
/-- Values of one cell. -/
def One1 (v : Value) : Prop := oneC v = true ∧ v.oneCell' = true ∧ v.cells = #[v]
section
variable {key : Value → Int} {w : World} {k : Value → W} {sl : Nat} {F : Nat → Prop} {vs : List Value}
/-- Get of one. -/
theorem F63_one {q : Value} {kq : Int} {p : Option Addr} {c : Nat} (K : SK key w sl F vs) (hlen : vs.length < 4294967295) (hC : CmpOk key F w vs q kq) (h1 : ∀ v ∈ vs, One1 v) (O : Own w 115 p 1 c [q])
    (hk : ∀ w' p' c', SK key w' sl F vs → Fr F w w' → Own w' 115 p' 1 c' [(findV key kq vs).getD .nilIface] → (∀ b, bl p' b → w.heap.size ≤ b) → k (.slice p' 1 c') w') : F63 k (some ⟨sl, 0, none⟩) p 1 c w := by
  obtain ⟨i, g1, g2, g3, g4⟩ := inf114
  have hr1 : (( findV key kq vs).getD .nilIface).oneCell' = true ∧ ((findV key kq vs).getD .nilIface).cells = #[(findV key kq vs).getD .nilIface] := by
    cases hf : findV key kq vs with
    | none => exact ⟨rfl, rfl⟩
    | some v => exact ⟨(h1 v (List.mem_of_find?_eq_some hf)).2.1, (h1 v (List.mem_of_find?_eq_some hf)).2.2⟩
  generalize hrr : (findV key kq vs).getD .nilIface = r at hk hr1
  unfold F63
  refine make_intro (P := Tryz.prog) 0 1 und110 g1 g3 g2 rfl (Nat.le_trans g4 (by decide)) (by omega) (Nat.zero_le _) fun w1 f1 o1 b1 z1 => ?_
  refine F63_L1_rule (I := fun sl' op ol oc ip il ic m j w' => sl' = some ⟨sl, 0, none⟩ ∧ ip = p ∧ il = 1 ∧ ic = c ∧ m = 1 ∧
      ∃ t : Nat, j = ((t : Nat) : Int) ∧ t ≤ 1 ∧ SK key w' sl F vs ∧ Fr F w w' ∧ ol = t ∧ Own w' 115 op ol oc ([r].take t) ∧ (∀ b, bl op b → w.heap.size ≤ b))
    (μ := fun sl' op ol oc ip il ic m j w' => 1 - j.toNat) ?_
    ⟨rfl, rfl, rfl, rfl, rfl, 0, rfl, Nat.zero_le _, K.fr0 f1, f1.mono fun _ h => h.elim, rfl, o1, fun b ⟨a, h, e⟩ => by cases h; exact Nat.le_of_eq e⟩
  rintro _ op ol oc _ il ic m j w2 ⟨rfl, rfl, e1, e2, rfl, t, rfl, ht, K2, f2, e3, O2, hop⟩
  obtain rfl := e2.symm
  unfold F63_L1
  rw [e1, e3]
  rw [e3] at O2
  by_cases hlt : t < 1
  · have : t = 0 := by omega
    subst this
    rw [decide_eq_true (show ((0 : Nat) : Int) < 1 by decide), BIf_true]
    have hOF : ∀ b, bl _ b → ¬ F b := own_not O K.ty (by decide)
    have hI2 := O.fr f2 hOF
    obtain ⟨qq, rest, ep, hB, _, _⟩ := hI2.get (by omega)
    rw [ep, NN_mk, Req_iff, Int.toNat_natCast, add_mk, Nat.zero_add]
    refine ⟨⟨by decide, by decide⟩, load_any (v := q) hB rfl ?_⟩
    have hz2 := f2.size
    have fin : ∀ (w3 : World) (v : Value), SK key w3 sl F vs → Fr F w2 w3 → v = r →
        RawT Tryz.prog (Instr.buildSlice 141 1 [(0, v)].toArray) (.s (.one .slice)) (fun s13p s13l s13c =>
          NextT Tryz.prog (builtin .append #[141, 141] 141 [false, false].toArray [.slice op 0 oc, .slice s13p s13l s13c].toArray) (.s (.one .slice)) fun s14p s14l s14c =>
          (fun (sl' op' : Option Addr) (ol' oc' : Nat) (ip' : Option Addr) (il' ic' : Nat) (m' j' : Int) (w' : World) => (sl' = some ⟨sl, 0, none⟩ ∧ ip' = some ⟨qq, 0, none⟩ ∧ il' = 1 ∧ ic' = c ∧ m' = 1 ∧
            ∃ t : Nat, j' = ((t : Nat) : Int) ∧ t ≤ 1 ∧ SK key w' sl F vs ∧ Fr F w w' ∧ ol' = t ∧ Own w' 115 op' ol' oc' ([r].take t) ∧ (∀ b, bl op' b → w.heap.size ≤ b)) ∧ 1 - j'.toNat < 1 - (((0 : Nat) : Int)).toNat)
            (some ⟨sl, 0, none⟩) s14p s14l s14c (some ⟨qq, 0, none⟩) 1 c 1 (addI .i64 ((0 : Nat) : Int) 1)) w3 := fun w3 v K3 f3 hv => by
      have O3 := O2.fr f3 (own_not O2 K2.ty (by decide))
      subst hv
      refine append1 (P := Tryz.prog) und110 g1 g3 g2 rfl g4 O3 hr1.1 hr1.2 (by omega) fun p' c' w4 f4 o4 hp4 hz4 => ?_
      rw [addI_i64 (by decide) (by decide)]
      have hz3 := f3.size
      refine ⟨⟨rfl, rfl, rfl, rfl, rfl, 1, rfl, Nat.le_refl _, K3.fr_ty f4 (own_ty O3) (by decide), ?_, rfl, o4, fun b hb => ?_⟩, by decide⟩
      · exact (f2.trans f3 fun b hb => .inl hb).trans f4 fun b hb => .inr (hop b hb)
      · rcases hp4 b hb with h | h
        · exact hop b h
        · omega
    have hC2 := hC.fr f2
    refine F71_call (F71_sk (kq := kq) K2 (by omega) hC2 fun w3 x p3 K3 f3 hx3 => back_pu ?_)
    have hso := K3.so
    rcases hx3 with ⟨rfl, hnil⟩ | ⟨n, B, g, v, rfl, hcons, hN, hen⟩
    · rw [oA_none, Option.isNone_none, Bool.not_true, BIf_false]
      unfold F63_J1
      rw [BIf_false, ← ep]
      rw [ep]
      refine fin w3 _ K3 f3 ?_
      rcases hi_head (k := kq) hso with ⟨z, B, e1, _⟩ | ⟨_, e1, _⟩
      · rw [hnil] at e1; cases e1
      · rw [← hrr, e1]; rfl
    · rw [oA_some, Option.isNone_some, Bool.not_false, BIf_true]
      have hv : v ∈ vs := (List.mem_filter.1 (show v ∈ hiV key kq vs by rw [hcons]; exact List.mem_cons_self ..)).1
      refine F72_call (F72_spec (w0 := w3) (S := F) hN (hC2.fr f3) (Fr.refl _ _) (by rw [hen]; exact hv) fun w4 f4 => back_int ?_)
      rw [hen, ord_eq]
      have K4 := K3.fr0 f4
      have f24 := f3.trans f4 fun _ h => h.elim
      unfold F63_J1
      rcases hi_head (k := kq) hso with ⟨z, B', e1, e2, e3, _⟩ | ⟨e0, e1, _⟩
      · rw [hcons] at e1
        injection e1 with e1 _
        subst e1
        rw [decide_eq_true e2, BIf_true, NN_mk]
        refine load_any (i := 2) (hN.a.fr f4 id) rfl ?_
        refine fin w4 _ K4 f24 ?_
        rw [← hrr, e3, hen]; rfl
      · rw [decide_eq_false (e0 v hv), BIf_false]
        refine fin w4 _ K4 f24 ?_
        rw [← hrr, e1]; rfl
  · rw [decide_eq_false (show ¬ ((t : Nat) : Int) < 1 by omega), BIf_false]
    have : t = 1 := by omega
    subst this
    exact hk w2 op oc K2 f2 O2 hop
/-- Insert of one. -/
theorem F65_one {v : Value} {p : Option Addr} {c : Nat} (K : SK key w sl F vs) (hlen : vs.length < 4294967295) (hC : CmpOk key F w vs v (key v)) (h1 : ∀ v ∈ vs, One1 v) (hv1 : oneC v = true) (O : Own w 115 p 1 c [v])
    (hk : ∀ w' F' p' c', SK key w' sl F' (putV key v vs) → Fr F w w' → (∀ b, F' b → F b ∨ w.heap.size ≤ b) → k (.slice p' 1 c') w') : F65 k (some ⟨sl, 0, none⟩) p 1 c w := by
  obtain ⟨i, g1, g2, g3, g4⟩ := inf114
  have hr1 : ((findV key (key v) vs).getD .nilIface).oneCell' = true ∧ ((findV key (key v) vs).getD .nilIface).cells = #[(findV key (key v) vs).getD .nilIface] := by
    cases hf : findV key (key v) vs with
    | none => exact ⟨rfl, rfl⟩
    | some u => exact ⟨(h1 u (List.mem_of_find?_eq_some hf)).2.1, (h1 u (List.mem_of_find?_eq_some hf)).2.2⟩
  unfold F65
  refine make_intro (P := Tryz.prog) 0 1 und110 g1 g3 g2 rfl (Nat.le_trans g4 (by decide)) (by omega) (Nat.zero_le _) fun w1 f1 o1 b1 z1 => ?_
  refine F65_L1_rule (I := fun sl' op ol oc ip il ic m j w' => sl' = some ⟨sl, 0, none⟩ ∧ ip = p ∧ il = 1 ∧ ic = c ∧ m = 1 ∧
      ((j = 0 ∧ SK key w' sl F vs ∧ Fr F w w' ∧ ol = 0 ∧ Own w' 115 op 0 oc [] ∧ (∀ b, bl op b → w.heap.size ≤ b)) ∨ (j = 1 ∧ ol = 1 ∧ ∃ F', SK key w' sl F' (putV key v vs) ∧ Fr F w w' ∧ ∀ b, F' b → F b ∨ w.heap.size ≤ b)))
    (μ := fun sl' op ol oc ip il ic m j w' => 1 - j.toNat) ?_
    ⟨rfl, rfl, rfl, rfl, rfl, .inl ⟨rfl, K.fr0 f1, f1.mono fun _ h => h.elim, rfl, o1, fun b ⟨a, h, e⟩ => by cases h; exact Nat.le_of_eq e⟩⟩
  rintro _ op ol oc _ il ic m j w2 ⟨rfl, rfl, e1, e2, rfl, ⟨rfl, K2, f2, e3, O2, hop⟩ | ⟨rfl, e3, F2, K2, f2, hF2⟩⟩
  · obtain rfl := e2.symm
    unfold F65_L1
    rw [e1, e3]
    rw [decide_eq_true (show (0 : Int) < 1 by decide), BIf_true]
    have hOF : ∀ b, bl _ b → ¬ F b := own_not O K.ty (by decide)
    have hI2 := O.fr f2 hOF
    obtain ⟨qq, rest, ep, hB, _, _⟩ := hI2.get (by omega)
    rw [ep, NN_mk, Req_iff, add_mk, Nat.zero_add]
    refine ⟨⟨by decide, by decide⟩, load_any (v := v) hB rfl ?_⟩
    have hz2 := f2.size
    refine F73_call (F73_spec K2 (by omega) (hC.fr f2) hv1 fun w3 F3 K3 f3 hF3 => back_any ?_)
    have O3 := O2.fr f3 (own_not O2 K2.ty (by decide))
    refine append1 (P := Tryz.prog) und110 g1 g3 g2 rfl g4 O3 hr1.1 hr1.2 (by omega) fun p' c' w4 f4 o4 hp4 hz4 => ?_
    rw [addI_i64 (by decide) (by decide)]
    have hz3 := f3.size
    refine ⟨⟨rfl, rfl, rfl, rfl, rfl, .inr ⟨rfl, rfl, F3, K3.fr_ty f4 (own_ty O3) (by decide), (f2.trans f3 fun b hb => .inl hb).trans f4 fun b hb => .inr (hop b hb), fun b hb => ?_⟩⟩, by decide⟩
    rcases hF3 b hb with h | h
    · exact .inl h
    · exact .inr (by omega)
  · unfold F65_L1
    rw [decide_eq_false (show ¬ (1 : Int) < 1 by decide), BIf_false, e3]
    exact hk w2 F2 op oc K2 f2 hF2
end
end Go.Proofs.YtfokodpnoiilbaaGreat.E

namespace Go.Proofs.YtfokodpnoiilbaaGreat.E
open Go
set_option linter.unusedSimpArgs false
set_option linter.unusedVariables false
set_option maxRecDepth 100000
set_option maxHeartbeats 8000000

/-- A bundle: of a further dimension, or the last one. -/
def bDim (b : Nat) : Value := .iface 137 (.pointer (some ⟨b, 0, none⟩))
def bLast (b : Nat) : Value := .iface 138 (.pointer (some ⟨b, 0, none⟩))
def bKey (n : Int) : Value := .iface 143 (.int .u64 n)
def keyB (s : RSt) : Value → Int
  | .iface _ (.pointer (some a)) => (s a.block).v
  | .iface _ (.int _ n) => n
  | _ => 0
@[simp] theorem keyB_dim (s : RSt) (b : Nat) : keyB s (bDim b) = (s b).v := rfl
@[simp] theorem keyB_last (s : RSt) (b : Nat) : keyB s (bLast b) = (s b).v := rfl
@[simp] theorem keyB_key (s : RSt) (n : Int) : keyB s (bKey n) = n := rfl
/-- A value to compare, and its number. -/
def QAt (w : World) (q : Value) (n : Int) : Prop := q = bKey n ∨ (∃ b us, q = bDim b ∧ Blk w b 148 (.int .u64 n :: us)) ∨ ∃ b us, q = bLast b ∧ Blk w b 146 (.int .u64 n :: us)
def BAt (w : World) (q : Value) (n : Int) : Prop := (∃ b us, q = bDim b ∧ Blk w b 148 (.int .u64 n :: us)) ∨ ∃ b us, q = bLast b ∧ Blk w b 146 (.int .u64 n :: us)
theorem QAt.fr {w w' : World} {q : Value} {n : Int} {S : Nat → Prop} {ts : List TypeId} (h : QAt w q n) (f : Fr S w w') (hT : Tys S w ts) (h1 : 148 ∉ ts) (h2 : 146 ∉ ts) : QAt w' q n := by
  rcases h with h | ⟨b, us, e, hB⟩ | ⟨b, us, e, hB⟩
  · exact .inl h
  · exact .inr (.inl ⟨b, us, e, blk_ty hB f hT h1⟩)
  · exact .inr (.inr ⟨b, us, e, blk_ty hB f hT h2⟩)
theorem BAt.fr {w w' : World} {q : Value} {n : Int} {S : Nat → Prop} {ts : List TypeId} (h : BAt w q n) (f : Fr S w w') (hT : Tys S w ts) (h1 : 148 ∉ ts) (h2 : 146 ∉ ts) : BAt w' q n := by
  rcases h with ⟨b, us, e, hB⟩ | ⟨b, us, e, hB⟩
  · exact .inl ⟨b, us, e, blk_ty hB f hT h1⟩
  · exact .inr ⟨b, us, e, blk_ty hB f hT h2⟩
theorem m_cmp252 (p : Option Addr) (q : Value) (w : World) : (callMethod (.iface 137 (.pointer p)) "Compare" [q].toArray).run Tryz.prog w = .ok (.enter 120 #[.pointer p, q]) w := by kernel_rfl
theorem m_cmp253 (p : Option Addr) (q : Value) (w : World) : (callMethod (.iface 138 (.pointer p)) "Compare" [q].toArray).run Tryz.prog w = .ok (.enter 122 #[.pointer p, q]) w := by kernel_rfl
theorem as254 (n : Int) (w : World) : (Instr.typeAssert (.iface 143 (.int .u64 n)) 115 155 false).run Tryz.prog w = .ok (.iface 143 (.int .u64 n)) w := by kernel_rfl
theorem as252 (p : Option Addr) (w : World) : (Instr.typeAssert (.iface 137 (.pointer p)) 115 155 false).run Tryz.prog w = .ok (.iface 137 (.pointer p)) w := by kernel_rfl
theorem as253 (p : Option Addr) (w : World) : (Instr.typeAssert (.iface 138 (.pointer p)) 115 155 false).run Tryz.prog w = .ok (.iface 138 (.pointer p)) w := by kernel_rfl
theorem mk254 (n : Int) (w : World) : (callMethod (.iface 143 (.int .u64 n)) "given.example/pub-spokeshave/pub/godatastructures/rangetree/skiplist.key" [].toArray).run Tryz.prog w = .ok (.enter 125 #[.int .u64 n]) w := by kernel_rfl
theorem mk252 (p : Option Addr) (w : World) : (callMethod (.iface 137 (.pointer p)) "given.example/pub-spokeshave/pub/godatastructures/rangetree/skiplist.key" [].toArray).run Tryz.prog w = .ok (.enter 121 #[.pointer p]) w := by kernel_rfl
theorem mk253 (p : Option Addr) (w : World) : (callMethod (.iface 138 (.pointer p)) "given.example/pub-spokeshave/pub/godatastructures/rangetree/skiplist.key" [].toArray).run Tryz.prog w = .ok (.enter 123 #[.pointer p]) w := by kernel_rfl
section
variable {w : World}
theorem as_intro {q : Value} {n : Int} {f : Value → W} (h : QAt w q n) (hk : f q w) : RawS Tryz.prog (Instr.typeAssert q 115 155 false) (.s (.one .any)) f w := by
  rcases h with rfl | ⟨b, us, rfl, hB⟩ | ⟨b, us, rfl, hB⟩
  · exact ⟨(bKey n, ()), as254 n w, hk⟩
  · exact ⟨(bDim b, ()), as252 _ w, hk⟩
  · exact ⟨(bLast b, ()), as253 _ w, hk⟩
theorem key_intro {q : Value} {n : Int} {f : Int → W} (h : QAt w q n) (hk : f n w) : NextT Tryz.prog (callMethod q "given.example/pub-spokeshave/pub/godatastructures/rangetree/skiplist.key" [].toArray) (.s (.one (.int .u64))) f w := by
  rcases h with rfl | ⟨b, us, rfl, hB⟩ | ⟨b, us, rfl, hB⟩
  · exact NextT_enter (mk254 n w) (F125_calls (back_int hk))
  · refine NextT_enter (mk252 _ w) (F121_calls ?_)
    unfold F121
    rw [NN_mk]
    exact load_int (i := 0) hB rfl (back_int hk)
  · refine NextT_enter (mk253 _ w) (F123_calls ?_)
    unfold F123
    rw [NN_mk]
    exact load_int (i := 0) hB rfl (back_int hk)
theorem ord_k {k : Value → W} {a b : Int} (hk : k (.int .i64 (ordI a b)) w) : (BIf (a == b) (k (.int .i64 0)) (BIf (decide (a > b)) (k (.int .i64 1)) (k (.int .i64 (-1))))) w := by
  unfold ordI at hk
  by_cases h : a = b
  · rw [show (a == b) = true by rw [beq_iff_eq]; exact h, BIf_true]
    rw [if_neg (by omega), if_neg (by omega)] at hk; exact hk
  · rw [show (a == b) = false by rw [beq_eq_false_iff_ne]; exact h, BIf_false]
    by_cases h2 : a > b
    · rw [decide_eq_true h2, BIf_true]
      rw [if_neg (by omega), if_pos (by omega)] at hk; exact hk
    · rw [decide_eq_false h2, BIf_false]
      rw [if_pos (by omega)] at hk; exact hk
theorem cmp_intro {e q : Value} {m n : Int} {f : Int → W} (he : BAt w e m) (hq : QAt w q n) (hk : ∀ w', Fr (fun _ => False) w w' → f (ordI m n) w') : NextT Tryz.prog (callMethod e "Compare" [q].toArray) (.s (.one (.int .i64))) f w := by
  rcases he with ⟨b, us, rfl, hB⟩ | ⟨b, us, rfl, hB⟩
  · refine NextT_enter (m_cmp252 _ q w) (F120_calls ?_)
    unfold F120
    refine as_intro hq (drw_intro fun w1 f1 z1 => ?_)
    have hB1 := hB.fr f1 id
    have hq1 := hq.fr f1 (Tys.none w) (by simp) (by simp)
    simp only [NN_mk]
    refine load_int (i := 0) hB1 rfl (key_intro hq1 (chk (i := 0) hB1 rfl ?_))
    by_cases h : m = n
    · rw [show (m == n) = true by rw [beq_iff_eq]; exact h, BIf_true]
      have : ordI m n = 0 := by unfold ordI; rw [if_neg (by omega), if_neg (by omega)]
      have h2 := hk w1 f1
      rw [this] at h2
      exact back_int h2
    · rw [show (m == n) = false by rw [beq_eq_false_iff_ne]; exact h, BIf_false]
      refine drw_intro fun w2 f2 z2 => ?_
      have hB2 := hB1.fr f2 id
      refine load_int (i := 0) hB2 rfl (key_intro (hq1.fr f2 (Tys.none w1) (by simp) (by simp)) (chk (i := 0) hB2 rfl ?_))
      have h2 := hk w2 (f1.trans f2 fun _ h => h.elim)
      unfold ordI at h2
      by_cases h3 : m > n
      · rw [decide_eq_true h3, BIf_true]
        rw [if_neg (by omega), if_pos (by omega)] at h2; exact back_int h2
      · rw [decide_eq_false h3, BIf_false]
        rw [if_pos (by omega)] at h2; exact back_int h2
  · refine NextT_enter (m_cmp253 _ q w) (F122_calls ?_)
    unfold F122
    refine as_intro hq (drw_intro fun w1 f1 z1 => ?_)
    have hB1 := hB.fr f1 id
    have hq1 := hq.fr f1 (Tys.none w) (by simp) (by simp)
    simp only [NN_mk]
    refine load_int (i := 0) hB1 rfl (key_intro hq1 (chk (i := 0) hB1 rfl ?_))
    by_cases h : m = n
    · rw [show (m == n) = true by rw [beq_iff_eq]; exact h, BIf_true]
      have : ordI m n = 0 := by unfold ordI; rw [if_neg (by omega), if_neg (by omega)]
      have h2 := hk w1 f1
      rw [this] at h2
      exact back_int h2
    · rw [show (m == n) = false by rw [beq_eq_false_iff_ne]; exact h, BIf_false]
      refine drw_intro fun w2 f2 z2 => ?_
      have hB2 := hB1.fr f2 id
      refine load_int (i := 0) hB2 rfl (key_intro (hq1.fr f2 (Tys.none w1) (by simp) (by simp)) (chk (i := 0) hB2 rfl ?_))
      have h2 := hk w2 (f1.trans f2 fun _ h => h.elim)
      unfold ordI at h2
      by_cases h3 : m > n
      · rw [decide_eq_true h3, BIf_true]
        rw [if_neg (by omega), if_pos (by omega)] at h2; exact back_int h2
      · rw [decide_eq_false h3, BIf_false]
        rw [if_pos (by omega)] at h2; exact back_int h2
/-- Bundles are compared by their numbers. -/
theorem cmpB {s : RSt} {F : Nat → Prop} {vs : List Value} {q : Value} {kq : Int} (hF : Tys F w [107, 117, 101, 29]) (hv : ∀ v ∈ vs, BAt w v (keyB s v)) (hq : QAt w q kq) : CmpOk (keyB s) F w vs q kq := fun w' f e he g hk =>
  cmp_intro ((hv e he).fr f hF (by decide) (by decide)) (hq.fr f hF (by decide) (by decide)) hk
end
end Go.Proofs.YtfokodpnoiilbaaGreat.E

namespace Go.Proofs.YtfokodpnoiilbaaGreat.E
open Go
set_option linter.unusedSimpArgs false
set_option linter.unusedVariables false
set_option maxRecDepth 100000
set_option maxHeartbeats 8000000

/-! ## Plain: bundles in order -/
def bnd (s : RSt) (c : Nat) : Value := if (s c).e.isSome = true then bLast c else bDim c
theorem keyB_bnd (s s' : RSt) (c : Nat) : keyB s (bnd s' c) = (s c).v := by unfold bnd; split <;> rfl
theorem bnd_one (s : RSt) (c : Nat) : One1 (bnd s c) := by unfold bnd; split <;> exact ⟨rfl, rfl, rfl⟩
theorem find_bnd {s : RSt} {v : Int} : ∀ {l : List Nat}, (l.map fun c => (s c).v).Pairwise (· < ·) →
    (∃ c, l[lbd v (l.map fun c => (s c).v)]? = some c ∧ (s c).v = v ∧ findV (keyB s) v (l.map (bnd s)) = some (bnd s c)) ∨
    ((∀ c, l[lbd v (l.map fun c => (s c).v)]? = some c → (s c).v ≠ v) ∧ findV (keyB s) v (l.map (bnd s)) = none ∧
      loV (keyB s) v (l.map (bnd s)) = (l.take (lbd v (l.map fun c => (s c).v))).map (bnd s) ∧ gtV (keyB s) v (l.map (bnd s)) = (l.drop (lbd v (l.map fun c => (s c).v))).map (bnd s))
  | [], _ => .inr ⟨fun c h => by simp at h, rfl, rfl, rfl⟩
  | a :: l, h => by
    have h : (((s a).v) :: l.map fun c => (s c).v).Pairwise (· < ·) := h
    obtain ⟨h1, h2⟩ := List.pairwise_cons.1 h
    have gt : ∀ c ∈ l, (s a).v < (s c).v := fun c hc => h1 _ (List.mem_map.2 ⟨c, hc, rfl⟩)
    have ih := find_bnd (v := v) h2
    by_cases ha : (s a).v < v
    · have e1 : lbd v ((a :: l).map fun c => (s c).v) = lbd v (l.map fun c => (s c).v) + 1 := by show (if (s a).v < v then _ else _) = _; rw [if_pos ha]
      have e2 : findV (keyB s) v ((a :: l).map (bnd s)) = findV (keyB s) v (l.map (bnd s)) := by
        unfold findV; rw [List.map_cons, List.find?_cons_of_neg]; rw [keyB_bnd]; simp; omega
      have e3 : loV (keyB s) v ((a :: l).map (bnd s)) = bnd s a :: loV (keyB s) v (l.map (bnd s)) := by
        unfold loV; rw [List.map_cons, List.filter_cons_of_pos]; rw [keyB_bnd]; simpa using ha
      have e4 : gtV (keyB s) v ((a :: l).map (bnd s)) = gtV (keyB s) v (l.map (bnd s)) := by
        unfold gtV; rw [List.map_cons, List.filter_cons_of_neg]; rw [keyB_bnd]; simp; omega
      rw [e1, e2, e3, e4]
      rcases ih with ⟨c, a1, a2, a3⟩ | ⟨a1, a2, a3, a4⟩
      · exact .inl ⟨c, a1, a2, a3⟩
      · exact .inr ⟨a1, a2, by rw [a3]; rfl, a4⟩
    · have e1 : lbd v ((a :: l).map fun c => (s c).v) = 0 := by show (if (s a).v < v then _ else _) = _; rw [if_neg ha]
      rw [e1]
      by_cases hv : (s a).v = v
      · refine .inl ⟨a, rfl, hv, ?_⟩
        unfold findV; rw [List.map_cons, List.find?_cons_of_pos]; rw [keyB_bnd]; simpa using hv
      · refine .inr ⟨fun c hc => by injection hc with hc; rw [← hc]; exact hv, ?_, ?_, ?_⟩
        · refine List.find?_eq_none.2 fun x hx => ?_
          obtain ⟨c, hc, rfl⟩ := List.mem_map.1 hx
          rw [keyB_bnd]
          rcases List.mem_cons.1 hc with rfl | hc
          · simpa using hv
          · have := gt c hc; simp; omega
        · refine List.filter_eq_nil_iff.2 fun x hx => ?_
          obtain ⟨c, hc, rfl⟩ := List.mem_map.1 hx
          rw [keyB_bnd]
          rcases List.mem_cons.1 hc with rfl | hc
          · simpa using ha
          · have := gt c hc; simp; omega
        · refine List.filter_eq_self.2 fun x hx => ?_
          obtain ⟨c, hc, rfl⟩ := List.mem_map.1 hx
          rw [keyB_bnd]
          rcases List.mem_cons.1 hc with rfl | hc
          · simp; omega
          · have := gt c hc; simp; omega
/-! ## Memory -/
/-- An entry, as the range tree of skip lists takes it. -/
def Dtn.vs (x : Dtn) : Value := .iface 91 x.a
def rdS (o : Option Dtn) : Value := (o.map Dtn.vs).getD .nilIface
def ndT (n : Rd) : TypeId := if n.e.isSome = true then 146 else 148
def ndC (n : Rd) (sl : Nat) : List Value := [.int .u64 n.v, match n.e with | some x => x.vs | none => .pointer (some ⟨sl, 0, none⟩)]
structure SM (w : World) (base tb num dm : Nat) (dr : Int) (D : List Nat) (s : RSt) (sl : Nat → Nat) (F : Nat → Nat → Prop) : Prop where
  top : Blk w tb 60 [.pointer (some ⟨sl tb, 0, none⟩), .int .u64 ((dm : Nat) : Int), .int .u64 ((num : Nat) : Int), .int .u64 dr]
  nodes : ∀ b ∈ D, Blk w b (ndT (s b)) (ndC (s b) (sl b))
  sk : ∀ b, b = tb ∨ b ∈ D → (s b).e = none → SK (keyB s) w (sl b) (F b) ((s b).kids.map (bnd s))
  dj : ∀ b b', (b = tb ∨ b ∈ D) → (b' = tb ∨ b' ∈ D) → (s b).e = none → (s b').e = none → b ≠ b' → ∀ x, F b x → ¬ F b' x
  kd : Kd tb D s
  te : (s tb).e = none
  ok : ∀ b ∈ D, ∀ x, (s b).e = some x → DtOk w x
  lo : ∀ b, b = tb ∨ b ∈ D → base ≤ b ∧ ((s b).e = none → ∀ y, F b y → base ≤ y)
section
variable {w w' : World} {base tb num dm : Nat} {dr : Int} {D : List Nat} {s : RSt} {sl : Nat → Nat} {F : Nat → Nat → Prop} {x : Nat}
theorem ndT_cases (n : Rd) : ndT n = 146 ∨ ndT n = 148 := by unfold ndT; split <;> simp
theorem SM.tbD (h : SM w base tb num dm dr D s sl F) : tb ∉ D := fun hb => by
  have := ((h.nodes tb hb).unique h.top).1
  rcases ndT_cases (s tb) with e | e <;> rw [e] at this <;> simp at this
/-- A block of a list is no node. -/
theorem SM.fx_ne (h : SM w base tb num dm dr D s sl F) (hx : x = tb ∨ x ∈ D) (hxe : (s x).e = none) {y z : Nat} (hz : F x z) (hy : y = tb ∨ y ∈ D) : z ≠ y := fun e => by
  subst e
  have T := (h.sk x hx hxe).ty
  rcases hy with rfl | hy
  · have := T _ _ _ hz h.top; simp at this
  · have := T _ _ _ hz (h.nodes z hy)
    rcases ndT_cases (s z) with e | e <;> rw [e] at this <;> simp at this
theorem SM.bat (h : SM w base tb num dm dr D s sl F) (hx : x = tb ∨ x ∈ D) : ∀ v ∈ (s x).kids.map (bnd s), BAt w v (keyB s v) := fun v hv => by
  obtain ⟨c, hc, rfl⟩ := List.mem_map.1 hv
  have hB := h.nodes c (h.kd x hx c hc)
  rw [keyB_bnd]
  unfold bnd
  unfold ndT ndC at hB
  split
  · rename_i he; rw [if_pos he] at hB; exact .inr ⟨c, _, rfl, hB⟩
  · rename_i he; rw [if_neg he] at hB; exact .inl ⟨c, _, rfl, hB⟩
theorem SM.one (s : RSt) (l : List Nat) : ∀ v ∈ l.map (bnd s), One1 v := fun v hv => by
  obtain ⟨c, _, rfl⟩ := List.mem_map.1 hv; exact bnd_one s c
theorem SM.cmp (h : SM w base tb num dm dr D s sl F) (hx : x = tb ∨ x ∈ D) (hxe : (s x).e = none) {q : Value} {kq : Int} (hq : QAt w q kq) : CmpOk (keyB s) (F x) w ((s x).kids.map (bnd s)) q kq :=
  cmpB (h.sk x hx hxe).ty (h.bat hx) hq
theorem SM.fr {S : Nat → Prop} (h : SM w base tb num dm dr D s sl F) (f : Fr S w w') (hS : ∀ b u us, S b → Blk w b u us → u ∉ [60, 146, 148, 107, 117, 101, 29, 2]) : SM w' base tb num dm dr D s sl F := by
  have ty : ∀ {b t : Nat} {us : List Value}, Blk w b t us → t ∈ [60, 146, 148, 107, 117, 101, 29, 2] → ¬ S b := fun hB ht hs => hS _ _ _ hs hB ht
  refine ⟨h.top.fr f (ty h.top (by decide)), fun b hb => (h.nodes b hb).fr f (ty (h.nodes b hb) (by rcases ndT_cases (s b) with e | e <;> rw [e] <;> decide)), fun b hb he => (h.sk b hb he).fr f fun y hy hs => ?_, h.dj, h.kd, h.te, fun b hb z hz => (h.ok b hb z hz).fr f fun b u us hs hu e => hS b u us hs hu (by rw [e]; decide), h.lo⟩
  have K := h.sk b hb he
  obtain ⟨u, us, hu⟩ : ∃ u us, Blk w y u us := by
    obtain ⟨ns, g, M, L, h', cb, pb, d, c, s', _, e⟩ := K
    rw [e] at hy
    rcases hy with rfl | rfl | rfl | ⟨z, hz, h⟩
    · exact ⟨_, _, s'.hd⟩
    · exact ⟨_, _, s'.ca⟩
    · obtain ⟨_, _, hb⟩ := s'.pw; exact ⟨_, _, hb⟩
    · rcases h with rfl | rfl | rfl
      · exact ⟨_, _, (s'.ms.n _ hz).a⟩
      · exact ⟨_, _, (s'.ms.n _ hz).f⟩
      · obtain ⟨_, _, hb⟩ := (s'.ms.n _ hz).v; exact ⟨_, _, hb⟩
  have := K.ty y u us hy hu
  refine hS y u us hs hu ?_
  simp only [List.mem_cons, List.not_mem_nil, or_false] at this ⊢
  rcases this with e | e | e | e <;> rw [e] <;> decide
theorem SM.fr0 (h : SM w base tb num dm dr D s sl F) (f : Fr (fun _ => False) w w') : SM w' base tb num dm dr D s sl F := h.fr f fun _ _ _ h => h.elim
theorem keyB_congr {s s' : RSt} (h : ∀ b, (s' b).v = (s b).v) (v : Value) : keyB s' v = keyB s v := by
  unfold keyB
  split
  · exact h _
  · rfl
  · rfl
def upF {α : Type} (f : Nat → α) (b : Nat) (a : α) : Nat → α := fun x => if x = b then a else f x
theorem upF_same {α : Type} (f : Nat → α) (b : Nat) (a : α) : upF f b a b = a := if_pos rfl
theorem upF_ne {α : Type} {f : Nat → α} {b : Nat} {a : α} {x : Nat} (h : x ≠ b) : upF f b a x = f x := if_neg h
/-- A list of bundles has turned. -/
theorem SM.kids {F' : Nat → Prop} {p' : Option Addr} {c' : Nat} {kids' : List Nat} (h : SM w base tb num dm dr D s sl F) (hx : x = tb ∨ x ∈ D) (hxe : (s x).e = none)
    (K : SK (keyB s) w' (sl x) F' (kids'.map (bnd s))) (f : Fr (F x) w w') (hF : ∀ b, F' b → F x b ∨ w.heap.size ≤ b) (hk : ∀ c ∈ kids', c ∈ D) : SM w' base tb num dm dr D (upR s x { s x with p := p', c := c', kids := kids' }) sl (upF F x F') := by
  have hv : ∀ b, (upR s x { s x with p := p', c := c', kids := kids' } b).v = (s b).v := fun b => by
    by_cases e : b = x
    · rw [e, upR_same]
    · rw [upR_ne e]
  have he : ∀ b, (upR s x { s x with p := p', c := c', kids := kids' } b).e = (s b).e := fun b => by
    by_cases e : b = x
    · rw [e, upR_same]
    · rw [upR_ne e]
  have hb : ∀ b, bnd (upR s x { s x with p := p', c := c', kids := kids' }) b = bnd s b := fun b => by unfold bnd; rw [he]
  have hbm : ∀ l : List Nat, l.map (bnd (upR s x { s x with p := p', c := c', kids := kids' })) = l.map (bnd s) := fun l => List.map_congr_left fun b _ => hb b
  refine ⟨h.top.fr f fun hs => h.fx_ne hx hxe hs (.inl rfl) rfl, fun b hbD => ?_, fun b hbD hbe => ?_, fun b b' h1 h2 e1 e2 hne y hy hy' => ?_, fun b hbD c hc => ?_, by rw [he]; exact h.te, fun b hbD z hz => ?_, fun b hbD => ⟨(h.lo b hbD).1, fun hbe y hy => ?_⟩⟩
  · have := (h.nodes b hbD).fr f fun hs => h.fx_ne hx hxe hs (.inr hbD) rfl
    unfold ndT ndC at this ⊢
    rw [he, hv]; exact this
  · rw [he] at hbe
    rw [hbm]
    by_cases e : b = x
    · rw [e, upF_same, upR_same]
      exact K.key_congr fun v _ => (keyB_congr hv v).symm
    · rw [upF_ne e, upR_ne e]
      exact ((h.sk b hbD hbe).fr f fun y hy hs => h.dj b x hbD hx hbe hxe e y hy hs).key_congr fun v _ => (keyB_congr hv v).symm
  · rw [he] at e1 e2
    by_cases e : b = x
    · subst e
      rw [upF_same] at hy
      rw [upF_ne (Ne.symm hne)] at hy'
      rcases hF y hy with h3 | h3
      · exact h.dj b b' h1 h2 e1 e2 hne y h3 hy'
      · have := (h.sk b' h2 e2).lt hy'; omega
    · rw [upF_ne e] at hy
      by_cases e' : b' = x
      · subst e'
        rw [upF_same] at hy'
        rcases hF y hy' with h3 | h3
        · exact h.dj b b' h1 h2 e1 e2 hne y hy h3
        · have := (h.sk b h1 e1).lt hy; omega
      · rw [upF_ne e'] at hy'
        exact h.dj b b' h1 h2 e1 e2 hne y hy hy'
  · by_cases e : b = x
    · rw [e, upR_same] at hc; exact hk c hc
    · rw [upR_ne e] at hc; exact h.kd b hbD c hc
  · rw [he] at hz
    refine (h.ok b hbD z hz).fr f fun y u us hs hu e => ?_
    have := (h.sk x hx hxe).ty y u us hs hu
    rw [e] at this; simp at this
  · rw [he] at hbe
    by_cases e : b = x
    · rw [e, upF_same] at hy
      rcases hF y hy with h3 | h3
      · exact (h.lo x hx).2 hxe y h3
      · have := (h.lo tb (.inl rfl)).1
        have := h.top.lt; omega
    · rw [upF_ne e] at hy; exact (h.lo b hbD).2 hbe y hy
/-- A new node. -/
theorem SM.new {c : Nat} {n : Rd} {slc : Nat} {Fc : Nat → Prop} (h : SM w base tb num dm dr D s sl F) (f : Fr (fun _ => False) w w') (hc : w.heap.size ≤ c) (hB : Blk w' c (ndT n) (ndC n slc)) (hK : n.e = none → SK (keyB s) w' slc Fc []) (hF : n.e = none → ∀ y, Fc y → w.heap.size ≤ y) (hkd : n.kids = []) (ok : ∀ z, n.e = some z → DtOk w' z) :
    c ∉ D ∧ c ≠ tb ∧ SM w' base tb num dm dr (c :: D) (upR s c n) (upF sl c slc) (upF F c Fc) := by
  have h' := h.fr0 f
  have ntb : c ≠ tb := fun e => by have := h.top.lt; omega
  have nD : c ∉ D := fun hb => by have := (h.nodes c hb).lt; omega
  have hbt : base ≤ w.heap.size := by
    have := (h.lo tb (.inl rfl)).1
    have := h.top.lt; omega
  have nb : ∀ b, b = tb ∨ b ∈ D → b ≠ c := fun b hb e => by
    rcases hb with hb | hb
    · exact ntb (e ▸ hb)
    · exact nD (e ▸ hb)
  have cas : ∀ b, b = tb ∨ b ∈ c :: D → b = c ∨ (b = tb ∨ b ∈ D) := fun b hb => by
    rcases hb with hb | hb
    · exact .inr (.inl hb)
    · rcases List.mem_cons.1 hb with hb | hb
      · exact .inl hb
      · exact .inr (.inr hb)
  have hbm : ∀ b, b = tb ∨ b ∈ D → (s b).kids.map (bnd (upR s c n)) = (s b).kids.map (bnd s) := fun b hb => List.map_congr_left fun d hd => by
    unfold bnd; rw [upR_ne (nb d (.inr (h.kd b hb d hd)))]
  refine ⟨nD, ntb, ?_, fun b hb => ?_, fun b hb he => ?_, fun b b' h1 h2 e1 e2 hne y hy hy' => ?_, fun b hb d hd => ?_, by rw [upR_ne (Ne.symm ntb)]; exact h.te, fun b hb z hz => ?_, fun b hb => ?_⟩
  · rw [upF_ne (Ne.symm ntb)]; exact h'.top
  · rcases List.mem_cons.1 hb with rfl | hb
    · rw [upR_same, upF_same]; exact hB
    · rw [upR_ne (nb b (.inr hb)), upF_ne (nb b (.inr hb))]; exact h'.nodes b hb
  · rcases cas b hb with rfl | hb
    · rw [upR_same] at he ⊢
      rw [upF_same, upF_same, hkd]
      exact (hK he).key_congr fun v hv => by cases hv
    · rw [upR_ne (nb b hb)] at he ⊢
      rw [upF_ne (nb b hb), upF_ne (nb b hb), hbm b hb]
      refine (h'.sk b hb he).key_congr fun v hv => ?_
      obtain ⟨d, hd, rfl⟩ := List.mem_map.1 hv
      rw [keyB_bnd, keyB_bnd, upR_ne (nb d (.inr (h.kd b hb d hd)))]
  · rcases cas b h1 with rfl | g1
    · rcases cas b' h2 with rfl | h2
      · exact hne rfl
      · rw [upR_same] at e1
        rw [upR_ne (nb b' h2)] at e2
        rw [upF_same] at hy
        rw [upF_ne (nb b' h2)] at hy'
        have := hF e1 y hy
        have := (h.sk b' h2 e2).lt hy'; omega
    · rw [upR_ne (nb b g1)] at e1
      rw [upF_ne (nb b g1)] at hy
      rcases cas b' h2 with rfl | h2
      · rw [upR_same] at e2
        rw [upF_same] at hy'
        have := hF e2 y hy'
        have := (h.sk b g1 e1).lt hy; omega
      · rw [upR_ne (nb b' h2)] at e2
        rw [upF_ne (nb b' h2)] at hy'
        exact h.dj b b' g1 h2 e1 e2 hne y hy hy'
  · rcases cas b hb with rfl | hb
    · rw [upR_same, hkd] at hd; cases hd
    · rw [upR_ne (nb b hb)] at hd; exact List.mem_cons_of_mem _ (h.kd b hb d hd)
  · rcases List.mem_cons.1 hb with rfl | hb
    · rw [upR_same] at hz; exact ok z hz
    · rw [upR_ne (nb b (.inr hb))] at hz; exact h'.ok b hb z hz
  · rcases cas b hb with rfl | hb
    · rw [upR_same, upF_same]
      exact ⟨by omega, fun he y hy => by have := hF he y hy; omega⟩
    · rw [upR_ne (nb b hb), upF_ne (nb b hb)]; exact h.lo b hb
/-- An entry is written over. -/
theorem SM.over {old : Nat} {e : Dtn} (h : SM w base tb num dm dr D s sl F) (ho : old ∈ D) (hoe : (s old).e.isSome = true) (he : DtOk w e) (f : Fr (fun y => y = old) w w') (hB : Blk w' old 146 [.int .u64 (s old).v, e.vs]) :
    SM w' base tb num dm dr D (upR s old { s old with e := some e }) sl F := by
  have hv : ∀ b, (upR s old { s old with e := some e } b).v = (s b).v := fun b => by
    by_cases e : b = old
    · rw [e, upR_same]
    · rw [upR_ne e]
  have hkk : ∀ b, (upR s old { s old with e := some e } b).kids = (s b).kids := fun b => by
    by_cases e : b = old
    · rw [e, upR_same]
    · rw [upR_ne e]
  have hen : ∀ b, (upR s old { s old with e := some e } b).e.isSome = (s b).e.isSome := fun b => by
    by_cases e : b = old
    · rw [e, upR_same, hoe]; rfl
    · rw [upR_ne e]
  have hee : ∀ b, (upR s old { s old with e := some e } b).e = none → (s b).e = none ∧ b ≠ old := fun b hb => by
    have := hen b
    rw [hb] at this
    have hn : (s b).e = none := by
      cases hq : (s b).e with
      | none => rfl
      | some _ => rw [hq] at this; cases this
    refine ⟨hn, fun e => ?_⟩
    rw [e, upR_same] at hb; cases hb
  have hb : ∀ b, bnd (upR s old { s old with e := some e }) b = bnd s b := fun b => by unfold bnd; rw [hen]
  have hbm : ∀ l : List Nat, l.map (bnd (upR s old { s old with e := some e })) = l.map (bnd s) := fun l => List.map_congr_left fun b _ => hb b
  have n2 : ∀ b u us, b = old → Blk w b u us → u ≠ 2 := fun b u us hb hu e => by
    subst hb
    have := (hu.unique (h.nodes b ho)).1
    rcases ndT_cases (s b) with e' | e' <;> rw [e, e'] at this <;> simp at this
  refine ⟨h.top.fr f fun e => h.tbD (e ▸ ho), fun b hbD => ?_, fun b hbD hbe => ?_, fun b b' h1 h2 e1 e2 => h.dj b b' h1 h2 (hee b e1).1 (hee b' e2).1, fun b hbD c hc => ?_, ?_, fun b hbD z hz => ?_, fun b hbD => ⟨(h.lo b hbD).1, fun hbe => (h.lo b hbD).2 (hee b hbe).1⟩⟩
  · by_cases e1 : b = old
    · rw [e1, upR_same]; exact hB
    · rw [upR_ne e1]; exact (h.nodes b hbD).fr f e1
  · obtain ⟨g1, g2⟩ := hee b hbe
    rw [hkk, hbm]
    exact ((h.sk b hbD g1).fr f fun y hy hs => h.fx_ne hbD g1 hy (.inr ho) hs).key_congr fun v _ => (keyB_congr hv v).symm
  · rw [hkk] at hc; exact h.kd b hbD c hc
  · rw [upR_ne (show tb ≠ old from fun e => h.tbD (e ▸ ho))]; exact h.te
  · by_cases e1 : b = old
    · rw [e1, upR_same] at hz
      cases hz
      exact he.fr f n2
    · rw [upR_ne e1] at hz; exact (h.ok b hbD z hz).fr f n2
theorem SM.numT {num' : Nat} (h : SM w base tb num dm dr D s sl F) (f : Fr (fun y => y = tb) w w') (b : Blk w' tb 60 [.pointer (some ⟨sl tb, 0, none⟩), .int .u64 ((dm : Nat) : Int), .int .u64 ((num' : Nat) : Int), .int .u64 dr]) : SM w' base tb num' dm dr D s sl F :=
  ⟨b, fun b hb => (h.nodes b hb).fr f fun e => h.tbD (e ▸ hb), fun b hb he => (h.sk b hb he).fr f fun y hy e => h.fx_ne hb he hy (.inl rfl) e, h.dj, h.kd, h.te, fun b hb z hz => (h.ok b hb z hz).fr f fun y u us hs hu => by
    have hs : y = tb := hs
    subst hs
    rw [(hu.unique h.top).1]; decide, h.lo⟩
end
end Go.Proofs.YtfokodpnoiilbaaGreat.E

namespace Go.Proofs.YtfokodpnoiilbaaGreat.E
open Go
set_option linter.unusedSimpArgs false
set_option linter.unusedVariables false
set_option maxRecDepth 100000
set_option maxHeartbeats 8000000

/-- How deep nodes lie. -/
structure LV (tb dm : Nat) (D : List Nat) (s : RSt) (lev : Nat → Nat) : Prop where
  k : ∀ b, b = tb ∨ b ∈ D → ∀ c ∈ (s b).kids, lev c + 1 = lev b
  l : ∀ b ∈ D, ((s b).e.isSome = true ↔ lev b = 0)
  t : lev tb = dm
def tsS : List TypeId := [60, 146, 107, 117, 101, 29]
theorem m_val2 (p : Option Addr) (l c : Nat) (i j : Int) (w : World) : (callMethod (.iface 91 (.agg #[.slice p l c, .int .i64 i])) "ValueAtDimension" [.int .u64 j].toArray).run Tryz.prog w = .ok (.enter 117 #[.agg #[.slice p l c, .int .i64 i], .int .u64 j]) w := by kernel_rfl
section
variable {w w' : World} {base tb num dm B : Nat} {dr : Int} {D : List Nat} {s : RSt} {sl : Nat → Nat} {F : Nat → Nat → Prop} {x : Nat} {lev : Nat → Nat}
theorem LV.kids {p' : Option Addr} {c' : Nat} {kids' : List Nat} (h : LV tb dm D s lev) (hk : ∀ c ∈ kids', lev c + 1 = lev x) : LV tb dm D (upR s x { s x with p := p', c := c', kids := kids' }) lev := by
  refine ⟨fun b hb c hc => ?_, fun b hb => ?_, h.t⟩
  · by_cases e : b = x
    · rw [e, upR_same] at hc; rw [e]; exact hk c hc
    · rw [upR_ne e] at hc; exact h.k b hb c hc
  · by_cases e : b = x
    · rw [← h.l b hb, e, upR_same]
    · rw [upR_ne e]; exact h.l b hb
theorem LV.new {c l : Nat} {n : Rd} (h : LV tb dm D s lev) (kd : Kd tb D s) (nD : c ∉ D) (nt : c ≠ tb) (hk : n.kids = []) (hl : n.e.isSome = true ↔ l = 0) : LV tb dm (c :: D) (upR s c n) (upF lev c l) := by
  refine ⟨fun b hb d hd => ?_, fun b hb => ?_, by rw [upF_ne (Ne.symm nt)]; exact h.t⟩
  · by_cases e : b = c
    · rw [e, upR_same, hk] at hd; cases hd
    · rw [upR_ne e] at hd
      have hb : b = tb ∨ b ∈ D := hb.imp id fun hb => by
        rcases List.mem_cons.1 hb with h | h
        · exact absurd h e
        · exact h
      rw [upF_ne e, upF_ne (neD nD nt (.inr (kd b hb d hd)))]
      exact h.k b hb d hd
  · by_cases e : b = c
    · rw [e, upR_same, upF_same]; exact hl
    · rw [upR_ne e, upF_ne e]
      rcases List.mem_cons.1 hb with h' | h'
      · exact absurd h' e
      · exact h.l b h'
theorem LV.over {old : Nat} {e : Dtn} (h : LV tb dm D s lev) (ho : old ∈ D) (hoe : (s old).e.isSome = true) : LV tb dm D (upR s old { s old with e := some e }) lev := by
  refine ⟨fun b hb c hc => ?_, fun b hb => ?_, h.t⟩
  · by_cases e1 : b = old
    · rw [e1, upR_same] at hc; rw [e1]; exact h.k old (e1 ▸ hb) c hc
    · rw [upR_ne e1] at hc; exact h.k b hb c hc
  · by_cases e1 : b = old
    · rw [e1, upR_same]; exact ⟨fun _ => (h.l old ho).1 hoe, fun _ => rfl⟩
    · rw [upR_ne e1]; exact h.l b hb
theorem SM.fx (h : SM w base tb num dm dr D s sl F) (hx : x = tb ∨ x ∈ D) (hxe : (s x).e = none) (f : Fr (F x) w w') : FX base tsS w w' :=
  ⟨F x, f, fun b u us hb hu => by
    have := (h.sk x hx hxe).ty b u us hb hu
    simp only [List.mem_cons, List.not_mem_nil, or_false] at this
    rcases this with e | e | e | e <;> rw [e] <;> decide, (h.lo x hx).2 hxe⟩
theorem TAs_ptr {p : Option Addr} {t : TypeId} {f : Option Addr → W} (h : f p w) : TAs (.iface t (.pointer p)) t (.s (.one .ptr)) f w := ⟨(p, ()), rfl, h⟩
theorem nil_last {c : Nat} {f : Bool → W} : IfaceNil (bLast c) f = f false := rfl
theorem nil_dim {c : Nat} {f : Bool → W} : IfaceNil (bDim c) f = f false := rfl
/-- A list was read. -/
theorem SM.read (h : SM w base tb num dm dr D s sl F) (hx : x = tb ∨ x ∈ D) (hxe : (s x).e = none) (K : SK (keyB s) w' (sl x) (F x) ((s x).kids.map (bnd s))) (f : Fr (F x) w w') : SM w' base tb num dm dr D s sl F := by
  have := h.kids (p' := (s x).p) (c' := (s x).c) (kids' := (s x).kids) hx hxe K f (fun b hb => .inl hb) (h.kd x hx)
  have e1 : upR s x { s x with p := (s x).p, c := (s x).c, kids := (s x).kids } = s := by
    funext b; unfold upR; split
    · rename_i e; rw [e]
    · rfl
  have e2 : upF F x (F x) = F := by
    funext b; unfold upF; split
    · rename_i e; rw [e]
    · rfl
  rw [e1, e2] at this
  exact this
theorem val2_intro {e : Dtn} {d : Nat} {f : Int → W} (h : DtOk w e) (hd : d < 900) (hk : ∀ w', Fr (fun _ => False) w w' → f (plI e.pos (d + 1)) w') : NextT Tryz.prog (callMethod e.vs "ValueAtDimension" [.int .u64 ((d : Nat) : Int)].toArray) (.s (.one (.int .i64))) f w := by
  refine NextT_enter (m_val2 _ _ _ _ _ w) (F117_calls ?_)
  unfold F117
  refine new_intro fun n w1 e1 b1 f1 z1 => load_slice (i := 0) b1 rfl ?_
  rw [addI_u64 (by omega) (by omega), show ((d : Nat) : Int) + 1 = ((d + 1 : Nat) : Int) by omega]
  exact F84_call (F84_dt (h.fr0 f1).1 h.2 (by omega) (back_int (back_int (hk w1 f1))))
theorem F64_no {k : Value → W} {i : Nat} (hi : i + 1 < dm) (hdm : dm < 1000) (hk : k (.bool false) w) : F64 k ((i : Nat) : Int) ((dm : Nat) : Int) w := by
  unfold F64
  rw [decide_eq_false (show ¬ ((i : Nat) : Int) ≥ ((dm : Nat) : Int) by omega), BIf_false, subI_u64 (by omega) (by omega), show (((i : Nat) : Int) == ((dm : Nat) : Int) - 1) = false by rw [beq_eq_false_iff_ne]; omega]
  exact bind_intro hk
theorem F64_yes {k : Value → W} {i : Nat} (hi : i + 1 = dm) (hdm : dm < 1000) (hk : k (.bool true) w) : F64 k ((i : Nat) : Int) ((dm : Nat) : Int) w := by
  unfold F64
  rw [decide_eq_false (show ¬ ((i : Nat) : Int) ≥ ((dm : Nat) : Int) by omega), BIf_false, subI_u64 (by omega) (by omega), show (((i : Nat) : Int) == ((dm : Nat) : Int) - 1) = true by rw [beq_iff_eq]; omega]
  exact bind_intro hk
theorem bld109 {v : Value} {f : Option Addr → Nat → Nat → W} (hv : One1 v) (hk : ∀ w' p, Own w' 115 p 1 1 [v] → (∀ b, bl p b → w.heap.size ≤ b) → Fr (fun _ => False) w w' → f p 1 1 w') : RawT Tryz.prog (Instr.buildSlice 140 1 [(0, v)].toArray) (.s (.one .slice)) f w := by
  obtain ⟨i, g1, g2, g3, g4⟩ := inf114
  refine build1 und109 g1 g3 g2 rfl hv.2.2 fun w1 f1 b1 z1 => ?_
  exact hk w1 _ (Own.mk' (rest := []) b1 rfl rfl (by decide)) (fun b hb => by have := bl_q.1 hb; omega) f1
/-- Get of a number in a node's list. -/
theorem get_key {k : Value → W} {v : Int} {g : Fn W (RTy.leaves (.s (.one .slice)))} (h : SM w base tb num dm dr D s sl F) (hx : x = tb ∨ x ∈ D) (hxe : (s x).e = none) (hs : (keysR s x).Pairwise (· < ·)) (hl : (s x).kids.length < 100000)
    (hk : ∀ w' p' c', SM w' base tb num dm dr D s sl F → FX base tsS w w' → Own w' 115 p' 1 c' [(findV (keyB s) v ((s x).kids.map (bnd s))).getD .nilIface] → g p' 1 c' w') :
    RawT Tryz.prog (Instr.buildSlice 140 1 [(0, .iface 143 (.int .u64 v))].toArray) (.s (.one .slice)) (fun s14p s14l s14c => CallT Tryz.prog 63 [.pointer (some ⟨sl x, 0, none⟩), .slice s14p s14l s14c] (.s (.one .slice)) g) w := by
  refine bld109 (v := bKey v) ⟨rfl, rfl, rfl⟩ fun w1 p1 O1 hp1 f1 => ?_
  have h1 := h.fr0 f1
  refine F63_call (F63_one (h1.sk x hx hxe) (by rw [List.length_map]; omega) (h1.cmp hx hxe (.inl rfl)) (SM.one s _) O1 fun w2 p2 c2 K2 f2 O2 hp2 => back_slice ?_)
  exact hk w2 p2 c2 (h1.read hx hxe K2 f2) ((FX.of0 f1).trans (h1.fx hx hxe f2)) O2
theorem one_get {k : Value → W} {p : Option Addr} {c : Nat} {v : Value} {f : Value → W} (O : Own w 115 p 1 c [v]) (hk : f v w) : (NN p fun a16 => Req (0 ≤ (0 : Int) ∧ (0 : Int) < ((1 : Nat) : Int)) <| LoadT .any (a16.add ((0 : Int).toNat)) f) w := by
  obtain ⟨q, rest, rfl, hB, _, _⟩ := O.get (by omega)
  rw [NN_mk, Req_iff, add_mk]
  exact ⟨⟨by decide, by decide⟩, load_any (i := 0) hB rfl hk⟩
/-- A bundle of a new node goes into a node's list. -/
theorem put_bnd {c : Nat} {v : Value} {kk : W} {kids : List Nat} (h : SM w base tb num dm dr D s sl F) (hx : x = tb ∨ x ∈ D) (hxe : (s x).e = none) (hc : c ∈ D) (hv : v = bnd s c) (hs : (keysR s x).Pairwise (· < ·)) (hl : (s x).kids.length < 100000)
    (hno : ∀ old, (s x).kids[lbd (s c).v (keysR s x)]? = some old → (s old).v ≠ (s c).v)
    (hk : ∀ w' F', SM w' base tb num dm dr D (upR s x { s x with p := (s x).p, c := (s x).c, kids := (s x).kids.take (lbd (s c).v (keysR s x)) ++ c :: (s x).kids.drop (lbd (s c).v (keysR s x)) }) sl F' → FX base tsS w w' → kk w') :
    RawT Tryz.prog (Instr.buildSlice 140 1 [(0, v)].toArray) (.s (.one .slice)) (fun s29p s29l s29c => CallT Tryz.prog 65 [.pointer (some ⟨sl x, 0, none⟩), .slice s29p s29l s29c] (.s (.one .slice)) fun _ _ _ => kk) w := by
  subst hv
  refine bld109 (bnd_one s c) fun w1 p1 O1 hp1 f1 => ?_
  have h1 := h.fr0 f1
  have hq : QAt w1 (bnd s c) (s c).v := by
    have hB := h1.nodes c hc
    unfold ndT ndC at hB
    unfold bnd
    split
    · rename_i he; rw [if_pos he] at hB; exact .inr (.inr ⟨c, _, rfl, hB⟩)
    · rename_i he; rw [if_neg he] at hB; exact .inr (.inl ⟨c, _, rfl, hB⟩)
  have hkb : keyB s (bnd s c) = (s c).v := keyB_bnd s s c
  have hC : CmpOk (keyB s) (F x) w1 ((s x).kids.map (bnd s)) (bnd s c) (keyB s (bnd s c)) := by rw [hkb]; exact h1.cmp hx hxe hq
  refine F65_call (F65_one (h1.sk x hx hxe) (by rw [List.length_map]; omega) hC (SM.one s _) (bnd_one s c).1 O1 fun w2 F2 p2 c2 K2 f2 hF2 => back_slice ?_)
  have ep : putV (keyB s) (bnd s c) ((s x).kids.map (bnd s)) = ((s x).kids.take (lbd (s c).v (keysR s x)) ++ c :: (s x).kids.drop (lbd (s c).v (keysR s x))).map (bnd s) := by
    unfold putV
    rw [hkb]
    rcases find_bnd (v := (s c).v) hs with ⟨o, a1, a2, _⟩ | ⟨_, _, a3, a4⟩
    · exact absurd a2 (hno o a1)
    · rw [a3, a4, List.map_append, List.map_cons]; rfl
  rw [ep] at K2
  have hkD : ∀ d ∈ (s x).kids.take (lbd (s c).v (keysR s x)) ++ c :: (s x).kids.drop (lbd (s c).v (keysR s x)), d ∈ D := fun d hd => by
    rcases List.mem_append.1 hd with hd | hd
    · exact h.kd x hx d (List.mem_of_mem_take hd)
    · rcases List.mem_cons.1 hd with rfl | hd
      · exact hc
      · exact h.kd x hx d (List.mem_of_mem_drop hd)
  exact hk w2 _ (h1.kids hx hxe K2 f2 hF2 hkD) ((FX.of0 f1).trans (h1.fx hx hxe f2))
/-- skipListRT.add. -/
theorem F57_spec {k : Value → W} {e : Dtn} (h : SM w base tb num dm dr D s sl F) (hL : LV tb dm D s lev) (hi : RIn tb B dm tb D s) (he : DtOk w e) (hpos : ∀ i, 0 ≤ plI e.pos i ∧ plI e.pos i < 9223372036854775808) (hd1 : 1 ≤ dm) (hdm : dm < 900) (hB : B < 90000) (hn : num < 1000000000)
    (hk : ∀ w' s' D' sl' F' lev' g, RPost tb B dm 1 e tb D s D' s' g → SM w' base tb (num + if g.isNone = true then 1 else 0) dm dr D' s' sl' F' → LV tb dm D' s' lev' → FX base tsS w w' → k (rdS (g.getD none)) w') :
    F57 k (some ⟨tb, 0, none⟩) e.vs w := by
  unfold F57
  rw [NN_mk]
  refine load_ptr (i := 0) h.top rfl ?_
  refine F57_L1_rule (I := fun rt en v7 slp i w0 => ∃ m x D s sl F lev, rt = some ⟨tb, 0, none⟩ ∧ en = e.vs ∧ slp = some ⟨sl x, 0, none⟩ ∧ m + 1 ≤ dm ∧ i = ((dm - (m + 1) : Nat) : Int) ∧ SM w0 base tb num dm dr D s sl F ∧ LV tb dm D s lev ∧ lev x = m + 1 ∧ RIn tb B (m + 1) x D s ∧ (s x).e = none ∧ DtOk w0 e ∧
      ∀ w' s' D' sl' F' lev' g, RPost tb B (m + 1) (dm - m) e x D s D' s' g → SM w' base tb (num + if g.isNone = true then 1 else 0) dm dr D' s' sl' F' → LV tb dm D' s' lev' → FX base tsS w0 w' → k (rdS (g.getD none)) w')
    (μ := fun rt en v7 slp i w0 => (dm + 1 - i : Int).toNat) ?_ ⟨dm - 1, tb, D, s, sl, F, lev, rfl, rfl, rfl, by omega, by rw [show dm - (dm - 1 + 1) = 0 by omega]; rfl, h, hL, by rw [hL.t]; omega, by rw [show dm - 1 + 1 = dm by omega]; exact hi, h.te, he, by rw [show dm - 1 + 1 = dm by omega, show dm - (dm - 1) = 1 by omega]; exact hk⟩
  rintro _ _ v7 _ _ w0 ⟨m, x, D, s, sl, F, lev, rfl, rfl, rfl, hm, rfl, h, hL, hlx, hi, hxe, he, hk⟩
  unfold F57_L1
  simp only [NN_mk, add_mk, Nat.zero_add]
  refine load_int (i := 1) h.top rfl ?_
  rw [decide_eq_true (show ((dm - (m + 1) : Nat) : Int) < ((dm : Nat) : Int) by omega), BIf_true]
  refine val2_intro he (by omega) fun w1 f1 => ?_
  rw [show dm - (m + 1) + 1 = dm - m by omega]
  obtain ⟨hv0, hv1⟩ := hpos (dm - m)
  rw [wrap_u64 hv0 (by omega)]
  have h1 := h.fr0 f1
  have hkl : (s x).kids.length < 100000 := by have := hi.b2 x List.mem_cons_self; omega
  have hsr := sr_keys hi.sr
  refine get_key (k := k) h1 hi.hx hxe hsr hkl fun w2 p2 c2 h2 f2 O2 => ?_
  refine one_get (k := k) O2 ?_
  have f02 : FX base tsS w0 w2 := (FX.of0 f1).trans f2
  have he2 := FX.dt he f02 (by decide)
  refine load_int (i := 1) h2.top rfl ?_
  cases m with
  | zero =>
    refine F64_call (F64_yes (by omega) (by omega) (back_bool ?_))
    rw [BIf_true]
    rcases find_bnd (v := plI e.pos (dm - 0)) hsr with ⟨c, a1, a2, a3⟩ | ⟨a1, a2, _, _⟩
    · rw [a3]
      have hcm : c ∈ (s x).kids := List.mem_of_getElem? a1
      have hcD := h.kd x hi.hx c hcm
      have hce : (s c).e.isSome = true := (hL.l c hcD).2 (by have := hL.k x hi.hx c hcm; omega)
      rw [show (some (bnd s c)).getD Value.nilIface = bLast c from if_pos hce, nil_last, show (!false) = true from rfl, BIf_true]
      refine TAs_ptr ?_
      simp only [NN_mk, add_mk, Nat.zero_add]
      have hB := h2.nodes c hcD
      obtain ⟨x0, hx0⟩ := Option.isSome_iff_exists.1 hce
      have hB : Blk w2 c 146 [.int .u64 (s c).v, x0.vs] := by
        unfold ndT ndC at hB
        rw [if_pos hce, hx0] at hB; exact hB
      refine load_any (i := 1) hB rfl (Req_iff.2 ⟨rfl, ?_⟩)
      refine store_intro (i := 1) hB (by simp) rfl fun w3 b3 f3 z3 => ?_
      have b3 : Blk w3 c 146 [.int .u64 (s c).v, e.vs] := b3
      have hp := RPost.over (e := e) (i := dm - 0) (y := { s c with e := some e }) h.kd hi rfl rfl rfl a1 a2
      have T : Tys (fun y => y = c) w2 [146] := Tys.one hB
      have := hk w3 _ D sl F lev (some (s c).e) hp (by simpa using h2.over hcD hce he2 f3 b3) (hL.over hcD hce) (f02.trans ⟨_, f3, fun b u us hb hu => by have := T b u us hb hu; simp at this; rw [this]; decide, fun b hb => by have hb : b = c := hb; rw [hb]; exact (h.lo c (.inr hcD)).1⟩)
      rw [show rdS ((some (s c).e).getD none) = x0.vs by rw [hx0]; rfl] at this
      exact this
    · rw [a2, show (none : Option Value).getD Value.nilIface = Value.nilIface from rfl, IfaceNil_nil, show (!true) = false from rfl, BIf_false]
      refine Req_iff.2 ⟨rfl, new_intro fun c w3 e3 b3 f3 z3 => ?_⟩
      obtain ⟨nD, nt, h3⟩ := h2.new (n := ⟨plI e.pos (dm - 0), some e, none, 0, []⟩) (slc := 0) (Fc := fun _ => False) f3 (by omega) b3 (fun h => by cases h) (fun h => by cases h) rfl (fun z hz => by cases hz; exact he2.fr0 f3)
      refine load_int (i := 2) h3.top rfl ?_
      rw [addI_u64 (by omega) (by omega)]
      refine store_intro (i := 2) h3.top (by simp) rfl fun w4 b4 f4 z4 => ?_
      have b4 : Blk w4 tb 60 [.pointer (some ⟨upF sl c 0 tb, 0, none⟩), .int .u64 ((dm : Nat) : Int), .int .u64 ((num + 1 : Nat) : Int), .int .u64 dr] := by
        have e1 : ((num : Nat) : Int) + 1 = ((num + 1 : Nat) : Int) := by omega
        rw [e1] at b4; exact b4
      have h4 := h3.numT f4 b4
      have hxc : x ≠ c := neD nD nt hi.hx
      have es : upR s c ⟨plI e.pos (dm - 0), some e, none, 0, []⟩ x = s x := upR_ne hxc
      have ec : upR s c ⟨plI e.pos (dm - 0), some e, none, 0, []⟩ c = ⟨plI e.pos (dm - 0), some e, none, 0, []⟩ := upR_same _ _ _
      have ek : keysR (upR s c ⟨plI e.pos (dm - 0), some e, none, 0, []⟩) x = keysR s x := by
        unfold keysR; rw [es]
        exact List.map_congr_left fun a ha => by rw [upR_ne (neD nD nt (.inr (h.kd x hi.hx a ha)))]
      have hx3 : x = tb ∨ x ∈ c :: D := hi.hx.imp id fun h => List.mem_cons_of_mem _ h
      have T4 : FX base tsS w3 w4 := ⟨_, f4, fun b u us hb hu => by have := Tys.one h3.top b u us hb hu; simp at this; rw [this]; decide, fun b hb => by have hb : b = tb := hb; rw [hb]; exact (h.lo tb (.inl rfl)).1⟩
      have hsl : (sl x) = upF sl c 0 x := (upF_ne hxc).symm
      rw [hsl]
      refine put_bnd (c := c) (kids := []) h4 hx3 (by rw [es]; exact hxe) List.mem_cons_self (by unfold bnd; rw [ec]; rfl) (by rw [ek]; exact hsr) (by rw [es]; exact hkl) (fun old ho hv => ?_) fun w5 F5 h5 f5 => ?_
      · rw [es, ek, ec] at ho
        rw [ec, upR_ne (neD nD nt (.inr (h.kd x hi.hx old (List.mem_of_getElem? ho))))] at hv
        exact a1 old ho hv
      · rw [es, ek, ec] at h5
        have hp := RPost.put (p' := (s x).p) (c' := (s x).c) (n := ⟨plI e.pos (dm - 0), some e, none, 0, []⟩) h.kd hi nD nt rfl rfl rfl a1
        have hL5 := (hL.new h.kd nD nt (n := ⟨plI e.pos (dm - 0), some e, none, 0, []⟩) (l := 0) rfl ⟨fun _ => rfl, fun _ => rfl⟩).kids (x := x) (p' := (s x).p) (c' := (s x).c) (kids' := (s x).kids.take (lbd (plI e.pos (dm - 0)) (keysR s x)) ++ c :: (s x).kids.drop (lbd (plI e.pos (dm - 0)) (keysR s x))) fun d hd => by
          rw [upF_ne hxc]
          have old : ∀ d ∈ (s x).kids, upF lev c 0 d + 1 = lev x := fun d hd => by rw [upF_ne (neD nD nt (.inr (h.kd x hi.hx d hd)))]; exact hL.k x hi.hx d hd
          rcases List.mem_append.1 hd with hd | hd
          · exact old d (List.mem_of_mem_take hd)
          · rcases List.mem_cons.1 hd with rfl | hd
            · rw [upF_same]; exact hlx.symm
            · exact old d (List.mem_of_mem_drop hd)
        rw [es] at hL5
        exact hk w5 _ (c :: D) _ F5 _ none hp h5 hL5 (((f02.trans (.of0 f3)).trans T4).trans f5)
  | succ m =>
    refine F64_call (F64_no (by omega) (by omega) (back_bool ?_))
    rw [BIf_false]
    have hii : dm - (m + 1) + 1 = dm - m := by omega
    have hadd : addI .u64 ((dm - (m + 1 + 1) : Nat) : Int) 1 = ((dm - (m + 1) : Nat) : Int) := by rw [addI_u64 (by omega) (by omega)]; omega
    rcases find_bnd (v := plI e.pos (dm - (m + 1))) hsr with ⟨c, a1, a2, a3⟩ | ⟨a1, a2, _, _⟩
    · rw [a3]
      have hcm : c ∈ (s x).kids := List.mem_of_getElem? a1
      have hcD := h.kd x hi.hx c hcm
      have hcl : lev c = m + 1 := by have := hL.k x hi.hx c hcm; omega
      have hce : (s c).e = none := by
        cases hq : (s c).e with
        | none => rfl
        | some y =>
          have := (hL.l c hcD).1 (by rw [hq]; rfl)
          omega
      rw [show (some (bnd s c)).getD Value.nilIface = bDim c from if_neg (by rw [hce]; simp), nil_dim, BIf_false]
      refine TAs_ptr ?_
      unfold F57_J1
      simp only [NN_mk, add_mk, Nat.zero_add]
      have hB := h2.nodes c hcD
      have hB : Blk w2 c 148 [.int .u64 (s c).v, .pointer (some ⟨sl c, 0, none⟩)] := by
        unfold ndT ndC at hB
        rw [hce] at hB; exact hB
      refine load_ptr (i := 1) hB rfl ?_
      rw [hadd]
      refine ⟨⟨m, c, D, s, sl, F, lev, by trivial, by trivial, by trivial, by omega, by trivial, h2, hL, hcl, RIn.found h.kd hi hcm, hce, he2, fun w' s' D' sl' F' lev' g hp h' hl' f' => ?_⟩, by omega⟩
      exact hk w' s' D' sl' F' lev' g (RPost.found h.kd hi a1 a2 (by rw [hii]; exact hp)) h' hl' (f02.trans f')
    · rw [a2, show (none : Option Value).getD Value.nilIface = Value.nilIface from rfl, IfaceNil_nil, BIf_true]
      refine load_int (i := 3) h2.top rfl ?_
      refine F29_call (F29_spec (key := keyB s) (M := 64) (.inr (.inr (.inr (by trivial)))) fun w3 slc Fc K3 f3 hFc => back_ptr ?_)
      refine new_intro fun c w4 e4 b4 f4 z4 => ?_
      have f24 : Fr (fun _ => False) w2 w4 := f3.trans f4 fun _ h => h.elim
      have z3 := f3.size
      obtain ⟨nD, nt, h4⟩ := h2.new (n := ⟨plI e.pos (dm - (m + 1)), none, none, 0, []⟩) (slc := slc) (Fc := Fc) f24 (by omega) b4 (fun _ => K3.fr0 f4) (fun _ => hFc) rfl (fun z hz => by cases hz)
      have hxc : x ≠ c := neD nD nt hi.hx
      have es : upR s c ⟨plI e.pos (dm - (m + 1)), none, none, 0, []⟩ x = s x := upR_ne hxc
      have ec : upR s c ⟨plI e.pos (dm - (m + 1)), none, none, 0, []⟩ c = ⟨plI e.pos (dm - (m + 1)), none, none, 0, []⟩ := upR_same _ _ _
      have ek : keysR (upR s c ⟨plI e.pos (dm - (m + 1)), none, none, 0, []⟩) x = keysR s x := by
        unfold keysR; rw [es]
        exact List.map_congr_left fun a ha => by rw [upR_ne (neD nD nt (.inr (h.kd x hi.hx a ha)))]
      have hx3 : x = tb ∨ x ∈ c :: D := hi.hx.imp id fun h => List.mem_cons_of_mem _ h
      have hsl : (sl x) = upF sl c slc x := (upF_ne hxc).symm
      rw [hsl]
      refine put_bnd (c := c) (kids := []) h4 hx3 (by rw [es]; exact hxe) List.mem_cons_self (by unfold bnd; rw [ec]; rfl) (by rw [ek]; exact hsr) (by rw [es]; exact hkl) (fun old ho hv => ?_) fun w5 F5 h5 f5 => ?_
      · rw [es, ek, ec] at ho
        rw [ec, upR_ne (neD nD nt (.inr (h.kd x hi.hx old (List.mem_of_getElem? ho))))] at hv
        exact a1 old ho hv
      · rw [es, ek, ec] at h5
        have hL5 := (hL.new h.kd nD nt (n := ⟨plI e.pos (dm - (m + 1)), none, none, 0, []⟩) (l := m + 1) rfl ⟨fun h => (by cases h), fun h => (by omega)⟩).kids (x := x) (p' := (s x).p) (c' := (s x).c) (kids' := (s x).kids.take (lbd (plI e.pos (dm - (m + 1))) (keysR s x)) ++ c :: (s x).kids.drop (lbd (plI e.pos (dm - (m + 1))) (keysR s x))) fun d hd => by
          rw [upF_ne hxc]
          have old : ∀ d ∈ (s x).kids, upF lev c (m + 1) d + 1 = lev x := fun d hd => by rw [upF_ne (neD nD nt (.inr (h.kd x hi.hx d hd)))]; exact hL.k x hi.hx d hd
          rcases List.mem_append.1 hd with hd | hd
          · exact old d (List.mem_of_mem_take hd)
          · rcases List.mem_cons.1 hd with rfl | hd
            · rw [upF_same]; exact hlx.symm
            · exact old d (List.mem_of_mem_drop hd)
        rw [es] at hL5
        unfold F57_J1
        simp only [NN_mk, add_mk, Nat.zero_add]
        have hcs : upR (upR s c ⟨plI e.pos (dm - (m + 1)), none, none, 0, []⟩) x { s x with p := (s x).p, c := (s x).c, kids := (s x).kids.take (lbd (plI e.pos (dm - (m + 1))) (keysR s x)) ++ c :: (s x).kids.drop (lbd (plI e.pos (dm - (m + 1))) (keysR s x)) } c = ⟨plI e.pos (dm - (m + 1)), none, none, 0, []⟩ := by rw [upR_ne (Ne.symm hxc), upR_same]
        have hB := h5.nodes c List.mem_cons_self
        rw [hcs, upF_same] at hB
        refine load_ptr (i := 1) hB rfl ?_
        rw [hadd]
        refine ⟨⟨m, c, c :: D, _, _, F5, _, by trivial, by trivial, by rw [upF_same], by omega, by trivial, h5, hL5, upF_same _ _ _, RIn.fresh (p' := (s x).p) (c' := (s x).c) (n := ⟨plI e.pos (dm - (m + 1)), none, none, 0, []⟩) h.kd hi nD nt rfl, by rw [hcs], FX.dt (he2.fr0 f24) f5 (by decide), fun w' s' D' sl' F' lev' g hp h' hl' f' => ?_⟩, by omega⟩
        exact hk w' s' D' sl' F' lev' g (RPost.fresh (n := ⟨plI e.pos (dm - (m + 1)), none, none, 0, []⟩) h.kd hi nD nt rfl rfl a1 (by rw [hii]; exact hp)) h' hl' (((f02.trans (.of0 f24)).trans f5).trans f')
end
end Go.Proofs.YtfokodpnoiilbaaGreat.E

namespace Go.Proofs.YtfokodpnoiilbaaGreat.E
open Go
set_option linter.unusedSimpArgs false
set_option linter.unusedVariables false
set_option maxRecDepth 100000
set_option maxHeartbeats 8000000

theorem rdS_one (o : Option Dtn) : oneC (rdS o) = true := by cases o <;> rfl
theorem rdS_one' (o : Option Dtn) : (rdS o).oneCell' = true := by cases o <;> rfl
theorem rdS_cells (o : Option Dtn) : (rdS o).cells = #[rdS o] := by cases o <;> rfl
/-- Values that are not negative. -/
def PosE (e : Dtn) : Prop := ∀ i, 0 ≤ plI e.pos i ∧ plI e.pos i < 9223372036854775808
def TrS (w : World) (base tb dm B : Nat) (L : ON (Option Dtn) dm) : Prop := ∃ D s sl F lev dr, SM w base tb (szN dm L) dm dr D s sl F ∧ LV tb dm D s lev ∧ RIn tb B dm tb D s ∧ absN dm s tb = L ∧ szN dm L ≤ B
theorem TrS.fr {w w' : World} {S : Nat → Prop} {base tb dm B : Nat} {L : ON (Option Dtn) dm} {ts : List TypeId} (h : TrS w base tb dm B L) (f : Fr S w w') (hT : Tys S w ts) (ht : ∀ u ∈ ts, u ∉ [60, 146, 148, 107, 117, 101, 29, 2]) : TrS w' base tb dm B L := by
  obtain ⟨D, s, sl, F, lev, dr, h1, h2, h3, h4, h5⟩ := h
  exact ⟨D, s, sl, F, lev, dr, h1.fr f fun b u us hb hu => ht u (hT b u us hb hu), h2, h3, h4, h5⟩
theorem TrS.fr0 {w w' : World} {base tb dm B : Nat} {L : ON (Option Dtn) dm} (h : TrS w base tb dm B L) (f : Fr (fun _ => False) w w') : TrS w' base tb dm B L := h.fr f (Tys.none w) fun u hu => by cases hu
theorem FX.ts {base' : Nat} {w w' : World} {base tb dm B : Nat} {L : ON (Option Dtn) dm} {ts : List TypeId} (h : TrS w base tb dm B L) (f : FX base' ts w w') (ht : ∀ u ∈ ts, u ∉ [60, 146, 148, 107, 117, 101, 29, 2]) : TrS w' base tb dm B L := by
  obtain ⟨S, f, hS, _⟩ := f
  exact h.fr f hS ht
theorem TrS.le {w : World} {base tb dm B B' : Nat} {L : ON (Option Dtn) dm} (h : TrS w base tb dm B L) (hb : B ≤ B') : TrS w base tb dm B' L := by
  obtain ⟨D, s, sl, F, lev, dr, h1, h2, h3, h4, h5⟩ := h
  exact ⟨D, s, sl, F, lev, dr, h1, h2, ⟨h3.hx, h3.nd, h3.sr, fun b hb' => by have := h3.b1 b hb'; omega, fun b hb' => by have := h3.b2 b hb'; omega⟩, h4, by omega⟩
theorem TrS.base {w : World} {base tb dm B : Nat} {L : ON (Option Dtn) dm} (h : TrS w base tb dm B L) : base ≤ w.heap.size := by
  obtain ⟨D, s, sl, F, lev, dr, h1, _⟩ := h
  have := (h1.lo tb (.inl rfl)).1
  have := h1.top.lt; omega
section
variable {w : World} {k : Value → W} {base tb dm B : Nat} {L : ON (Option Dtn) dm}
/-- add, by the tree's entries. -/
theorem add1S {e : Dtn} (h : TrS w base tb dm B L) (he : DtOk w e) (hpos : PosE e) (hd1 : 1 ≤ dm) (hdm : dm < 900) (hB : B < 90000)
    (hk : ∀ w', TrS w' base tb dm (B + 1) (addE dm L e) → (∀ x, oldE dm L e = some x → DtOk w' x) → FX base tsS w w' → k (rdS (oldE dm L e)) w') : F57 k (some ⟨tb, 0, none⟩) e.vs w := by
  obtain ⟨D, s, sl, F, lev, dr, h1, h2, h3, h4, h5⟩ := h
  refine F57_spec h1 h2 h3 he hpos hd1 hdm hB (by omega) fun w' s' D' sl' F' lev' g hp h' hl' f' => ?_
  have hkl : (kyD e dm 1).length = dm := kyD_len e dm 1
  have hA : absN dm s' tb = addE dm L e := by rw [hp.ab, h4]; rfl
  have hg : getON dm L (kyD e dm 1) = g := by rw [← h4]; exact hp.gt
  have hsz : szN dm (addE dm L e) = szN dm L + if (getON dm L (kyD e dm 1)).isNone = true then 1 else 0 := szN_add dm L _ _ (h4 ▸ h3.sr) hkl
  have ho : oldE dm L e = g.getD none := by unfold oldE; rw [hg]
  rw [hg] at hsz
  rw [← ho]
  have hle : szN dm (addE dm L e) ≤ B + 1 := by rw [hsz]; split <;> omega
  refine hk w' ⟨D', s', sl', F', lev', dr, by rw [hsz]; exact h', hl', ⟨.inl rfl, hp.nd, by rw [hA]; exact srt_add dm L _ _ (h4 ▸ h3.sr), fun b hb => by have := hp.b1 b hb; omega, fun b hb => by
    have hbD : b = tb ∨ b ∈ D' := by
      rcases List.mem_cons.1 hb with e | hb
      · exact .inl e
      · exact .inr (rch_D dm h'.kd (.inl rfl) b hb)
    exact hp.b1 b hbD⟩, hA, hle⟩ (fun x hx => ?_) f'
  -- what was there was there already
  have hx2 : getON dm L (kyD e dm 1) = some (some x) := by
    unfold oldE at hx
    cases hq : getON dm L (kyD e dm 1) with
    | none => rw [hq] at hx; cases hx
    | some o => rw [hq] at hx; rw [show o = some x from hx]
  have : ∀ (m : Nat) (x0 : Nat) (ky : List Int) (o : Option Dtn), (x0 = tb ∨ x0 ∈ D) → (m = 0 → x0 ∈ D) → getON m (absN m s x0) ky = some o → ∃ b ∈ D, (s b).e = o := fun m => by
    induction m with
    | zero =>
      intro x0 ky o hx0 hm hg
      have hg : some (s x0).e = some o := hg
      exact ⟨x0, hm rfl, by injection hg⟩
    | succ m ih =>
      intro x0 ky o hx0 _ hg
      cases ky with
      | nil => cases hg
      | cons v vs =>
        have hg : (lkp v (lvl m s (s x0).kids)).bind (fun y => getON m y vs) = some o := hg
        obtain ⟨y, hy, hg⟩ := Option.bind_eq_some_iff.1 hg
        have hmem : ∀ (l : List (Int × ON (Option Dtn) m)), lkp v l = some y → ∃ p ∈ l, p.2 = y := fun l => by
          induction l with
          | nil => intro h; cases h
          | cons p l ih =>
            intro h
            unfold lkp at h
            split at h
            · injection h with h; exact ⟨p, List.mem_cons_self, h⟩
            · obtain ⟨q, hq, e⟩ := ih h; exact ⟨q, List.mem_cons_of_mem _ hq, e⟩
        obtain ⟨p, hp, rfl⟩ := hmem _ hy
        obtain ⟨c, hc, rfl⟩ := List.mem_map.1 hp
        have hcD := h1.kd x0 hx0 c hc
        exact ih c vs o (.inr hcD) (fun _ => hcD) hg
  obtain ⟨b, hb, hbe⟩ := this dm tb _ _ (.inl rfl) (fun h => by omega) (by rw [h4]; exact hx2)
  exact FX.dt (h1.ok b hb x hbe) f' (by decide)
/-- Add. -/
theorem F50_spec {ys : List Dtn} {p : Option Addr} {c : Nat} (h : TrS w base tb dm B L) (O : Own w 76 p ys.length c (ys.map Dtn.vs)) (ok : ∀ y ∈ ys, DtOk w y) (hpos : ∀ y ∈ ys, PosE y) (hd1 : 1 ≤ dm) (hdm : dm < 900) (hB : B + ys.length < 90000)
    (hk : ∀ w' p' c', TrS w' base tb dm (B + ys.length) (addsE dm L ys) → Own w' 76 p' ys.length c' ((oldsE dm L ys).map rdS) → (∀ o ∈ oldsE dm L ys, ∀ x, o = some x → DtOk w' x) → FX base tsS w w' → k (.slice p' ys.length c') w') :
    F50 k (some ⟨tb, 0, none⟩) p ys.length c w := by
  unfold F50
  obtain ⟨ie, g1, g2, g3, g4⟩ := inf153
  refine make_intro ys.length ys.length und144 g1 g2 g3 rfl (by omega) (by omega) (Nat.le_refl _) fun w1 f1 o1 b1 z1 => ?_
  have hq := z1
  generalize hqq : w.heap.size = q at o1 b1
  refine F50_L1_rule (I := fun ot op ol oc sp sl sc n i w' => ot = some ⟨tb, 0, none⟩ ∧ op = some ⟨q, 0, none⟩ ∧ ol = ys.length ∧ oc = ys.length ∧ sp = p ∧ sl = ys.length ∧ sc = c ∧ n = ((ys.length : Nat) : Int) ∧ ∃ t : Nat, i = ((t : Nat) : Int) ∧ t ≤ ys.length ∧ TrS w' base tb dm (B + t) (addsE dm L (ys.take t)) ∧ Own w' 76 (some ⟨q, 0, none⟩) ys.length ys.length ((oldsE dm L (ys.take t)).map rdS ++ List.replicate (ys.length - t) .nilIface) ∧ (∀ o ∈ oldsE dm L (ys.take t), ∀ x, o = some x → DtOk w' x) ∧ Own w' 76 p ys.length c (ys.map Dtn.vs) ∧ (∀ y ∈ ys, DtOk w' y) ∧ FX base tsS w w')
    (μ := fun ot op ol oc sp sl sc n i w' => ys.length - i.toNat) ?_ ⟨rfl, rfl, rfl, rfl, rfl, rfl, rfl, rfl, 0, rfl, Nat.zero_le _, h.fr0 f1, o1, (fun o ho => by cases ho), O.fr f1 fun _ _ => id, fun y hy => (ok y hy).fr0 f1, .of0 f1⟩
  rintro ot op ol oc sp sl sc n i w2 ⟨e1, e2, e3, e4, e5, e6, e7, rfl, t, rfl, ht, h2, o2, ok2, O2, oky, f2⟩
  obtain rfl := e7.symm
  obtain rfl := e5.symm
  unfold F50_L1
  rw [e1, e2, e3, e4, e6]
  by_cases hlt : t < ys.length
  · rw [decide_eq_true (show ((t : Nat) : Int) < ((ys.length : Nat) : Int) by omega), BIf_true]
    have hy : ys[t]? = some ys[t] := List.getElem?_eq_getElem hlt
    have hmem : ys[t] ∈ ys := List.getElem_mem hlt
    generalize ys[t] = y at hy hmem
    obtain ⟨q2, rest2, hp, hB2, _, _⟩ := O2.get (by omega)
    have hsn : ys.take (t + 1) = ys.take t ++ [y] := take_snoc hy
    have eA : addsE dm L (ys.take (t + 1)) = addE dm (addsE dm L (ys.take t)) y := by rw [hsn, addsE_snoc]
    have eO : oldsE dm L (ys.take (t + 1)) = oldsE dm L (ys.take t) ++ [oldE dm (addsE dm L (ys.take t)) y] := by rw [hsn, oldsE_snoc]
    generalize addsE dm L (ys.take t) = Lt at h2 eA eO
    have hlen : (oldsE dm L (ys.take t)).length = t := by rw [oldsE_length, List.length_take]; omega
    generalize oldsE dm L (ys.take t) = os at o2 ok2 eO hlen
    rw [hp, NN_mk, Req_iff, Int.toNat_natCast, add_mk, Nat.zero_add]
    refine ⟨by omega, load_any (v := y.vs) hB2 (by rw [List.getElem?_append_left (by simpa using hlt), List.getElem?_map, hy]; rfl) ?_⟩
    have hrep : List.replicate (ys.length - t) Value.nilIface = Value.nilIface :: List.replicate (ys.length - (t + 1)) Value.nilIface := by
      rw [show ys.length - t = (ys.length - (t + 1)) + 1 by omega, List.replicate_succ]
    have hqlt : w.heap.size ≤ q := by omega
    have hmu : ys.length - (((t : Nat) : Int) + 1).toNat < ys.length - ((t : Nat) : Int).toNat := by omega
    refine F57_call (add1S h2 (oky y hmem) (hpos y hmem) hd1 hdm (by omega) fun w3 h3 hx3 f3 => back_any ?_)
    have o3 := f3.own o2 (by decide)
    have O3 := f3.own O2 (by decide)
    have oky3 : ∀ y ∈ ys, DtOk w3 y := fun y hy => f3.dt (oky y hy) (by decide)
    have ok3 : ∀ o ∈ os, ∀ x, o = some x → DtOk w3 x := fun o ho x hx => f3.dt (ok2 o ho x hx) (by decide)
    rw [addI_i64 (by omega) (by omega), show ((t : Nat) : Int) + 1 = ((t + 1 : Nat) : Int) by omega]
    generalize hoo : oldE dm Lt y = o at hx3 eO
    obtain ⟨rest, hBq, hqc, hqm⟩ := o3.full
    simp only [NN_mk, Int.toNat_natCast, add_mk, Nat.zero_add]
    refine Req_iff.2 ⟨by omega, Req_iff.2 ⟨rdS_one _, ?_⟩⟩
    have hol : (List.map rdS os).length = t := by rw [List.length_map]; exact hlen
    refine store_intro hBq (by simp; omega) (rdS_one _) fun w4 b4 f4 z4 => ?_
    have eset : (List.map rdS os ++ List.replicate (ys.length - t) Value.nilIface ++ rest).set t (rdS o) = (List.map rdS (os ++ [o]) ++ List.replicate (ys.length - (t + 1)) Value.nilIface) ++ rest := by
      rw [hrep, List.append_assoc, List.set_append_right _ _ (by omega), hol, Nat.sub_self, List.map_append]
      simp
    rw [eset] at b4
    have T4 : Tys (fun x => x = q) w3 [76] := Tys.one hBq
    have nT : ∀ b u us, b = q → Blk w3 b u us → u ≠ 2 := fun b u us hb hu e => by
      have := T4 b u us hb hu
      rw [e] at this; simp at this
    refine ⟨⟨by trivial, by trivial, by trivial, by trivial, by trivial, by trivial, by trivial, by trivial, t + 1, by trivial, hlt, by rw [eA]; exact h3.fr f4 T4 (by decide), ?_, ?_, ?_, fun y hy => (oky3 y hy).fr f4 nT, (f2.trans f3).new f4 fun b hb => by have hb : b = q := hb; omega⟩, by omega⟩
    · rw [eO]
      exact Own.mk' b4 (by simp [hlen]; omega) (by have h := hqc; simp [hlen] at h ⊢; omega) hqm
    · rw [eO]
      intro o' ho' x hx
      rcases List.mem_append.1 ho' with h | h
      · exact (ok3 o' h x hx).fr f4 nT
      · rw [List.mem_singleton] at h; rw [h] at hx
        exact (hx3 x hx).fr f4 nT
    · rw [← hp]; exact O3.fr f4 fun b hb e => by have := O.lt hb; have e : b = q := e; omega
  · rw [decide_eq_false (show ¬ ((t : Nat) : Int) < ((ys.length : Nat) : Int) by omega), BIf_false]
    have : t = ys.length := by omega
    subst this
    rw [List.take_length] at h2 o2 ok2
    rw [Nat.sub_self, List.replicate_zero, List.append_nil] at o2
    exact hk w2 _ _ h2 o2 ok2 f2
/-- Len. -/
theorem F55_spec (h : TrS w base tb dm B L) (hk : k (.int .u64 ((szN dm L : Nat) : Int)) w) : F55 k (some ⟨tb, 0, none⟩) w := by
  obtain ⟨D, s, sl, F, lev, dr, h1, _⟩ := h
  unfold F55
  simp only [NN_mk, add_mk, Nat.zero_add]
  exact load_int (i := 2) h1.top rfl hk
/-- NewSeeded. -/
theorem F15_spec {seed : Int} (hd1 : 1 ≤ dm) (hdm : dm < 900) (hbase : base ≤ w.heap.size) (hk : ∀ w' tb, TrS w' base tb dm 0 (nilN dm) → Fr (fun _ => False) w w' → k (.iface 57 (.pointer (some ⟨tb, 0, none⟩))) w') : F15 k ((dm : Nat) : Int) seed w := by
  unfold F15
  refine new_intro fun n w1 e1 b1 f1 z1 => ?_
  refine F19_call ?_
  unfold F19
  simp only [NN_mk, add_mk, Nat.zero_add]
  refine store_intro (i := 1) b1 (by simp) rfl fun w2 b2 f2 z2 => ?_
  refine load_int (i := 3) b2 rfl ?_
  refine F29_call (F29_spec (key := keyB fun _ => ⟨0, none, none, 0, []⟩) (M := 64) (.inr (.inr (.inr (by trivial)))) fun w3 slc Fc K3 f3 hFc => back_ptr ?_)
  have b3 := b2.fr f3 id
  refine store_intro (i := 0) b3 (by simp) rfl fun w4 b4 f4 z4 => back0 ?_
  have b4 : Blk w4 n 60 [.pointer (some ⟨slc, 0, none⟩), .int .u64 ((dm : Nat) : Int), .int .u64 0, .int .u64 seed] := b4
  have z3 := f3.size
  have K4 := K3.fr f4 fun y hy e => by have := hFc y hy; have e : y = n := e; omega
  have f04 : Fr (fun _ => False) w w4 := ((f1.trans f2 fun b hb => .inr (by have hb : b = n := hb; omega)).trans f3 fun _ h => h.elim).trans f4 fun b hb => .inr (by have hb : b = n := hb; omega)
  refine hk w4 n ?_ f04
  obtain ⟨m, rfl⟩ : ∃ m, dm = m + 1 := ⟨dm - 1, by omega⟩
  refine ⟨[], fun _ => ⟨0, none, none, 0, []⟩, fun _ => slc, fun _ => Fc, fun _ => m + 1, seed, ⟨b4, fun b hb => (by cases hb), fun b hb _ => K4, fun b b' hb hb' _ _ hne => ?_, fun b hb c hc => (by cases hc), rfl, fun b hb => (by cases hb), fun b hb => ?_⟩, ⟨fun b hb c hc => (by cases hc), fun b hb => (by cases hb), rfl⟩, ⟨.inl rfl, ?_, ?_, fun b _ => Nat.zero_le _, fun b _ => Nat.zero_le _⟩, rfl, Nat.zero_le _⟩
  · rcases hb with rfl | hb
    · rcases hb' with rfl | hb'
      · exact absurd rfl hne
      · cases hb'
    · cases hb
  · rcases hb with rfl | hb
    · exact ⟨by omega, fun _ y hy => by have := hFc y hy; omega⟩
    · cases hb
  · show (n :: List.flatMap _ []).Nodup
    simp
  · exact ⟨List.Pairwise.nil, fun p hp => (by cases hp)⟩
end
end Go.Proofs.YtfokodpnoiilbaaGreat.E

namespace Go.Proofs.YtfokodpnoiilbaaGreat.E
open Go
set_option linter.unusedSimpArgs false
set_option linter.unusedVariables false
set_option maxRecDepth 100000
set_option maxHeartbeats 8000000

section
variable {w : World} {k : Value → W} {base tb num dm B : Nat} {dr : Int} {D : List Nat} {s : RSt} {sl : Nat → Nat} {F : Nat → Nat → Prop} {lev : Nat → Nat}
/-- What is found below a node, by its list. -/
theorem get_found {m x c : Nat} {v : Int} {vs : List Int} (hs : (lvl m s (s x).kids).Pairwise (fun p q => p.1 < q.1)) (ho : (s x).kids[lbd v (keysR s x)]? = some c) (hv : (s c).v = v) : getON (m + 1) (absN (m + 1) s x) (v :: vs) = getON m (absN m s c) vs := by
  have hlb : lbd v ((lvl m s (s x).kids).map Prod.fst) = lbd v (keysR s x) := by rw [lvl_fst]; rfl
  have hL : (lvl m s (s x).kids)[lbd v (keysR s x)]? = some (v, absN m s c) := by
    unfold lvl; rw [List.getElem?_map, ho, ← hv]; rfl
  have := (ins_at (f := id) (x0 := absN m s c) hs (v := v)).1 (absN m s c) (by rw [hlb]; exact hL)
  show (lkp v (lvl m s (s x).kids)).bind _ = _
  rw [this.1]; rfl
theorem get_not {m x : Nat} {v : Int} {vs : List Int} (hs : (lvl m s (s x).kids).Pairwise (fun p q => p.1 < q.1)) (hno : ∀ c, (s x).kids[lbd v (keysR s x)]? = some c → (s c).v ≠ v) : getON (m + 1) (absN (m + 1) s x) (v :: vs) = none := by
  have hlb : lbd v ((lvl m s (s x).kids).map Prod.fst) = lbd v (keysR s x) := by rw [lvl_fst]; rfl
  show (lkp v (lvl m s (s x).kids)).bind _ = _
  cases hk : lkp v (lvl m s (s x).kids) with
  | none => rfl
  | some y =>
    have hy := (lkp_mem hs).1 hk
    by_cases h : ∃ z, (lvl m s (s x).kids)[lbd v (keysR s x)]? = some (v, z)
    · obtain ⟨z, hz⟩ := h
      unfold lvl at hz
      rw [List.getElem?_map] at hz
      obtain ⟨c, hc, he⟩ := Option.map_eq_some_iff.1 hz
      injection he with he _
      exact absurd he (hno c hc)
    · have := ((ins_at (f := id) (x0 := y) hs (v := v)).2 fun z hz => h ⟨z, by rw [hlb] at hz; exact hz⟩).1
      rw [hk] at this; cases this
/-- skipListRT.get. -/
theorem F60_spec {e : Dtn} (h : SM w base tb num dm dr D s sl F) (hL : LV tb dm D s lev) (hi : RIn tb B dm tb D s) (he : DtOk w e) (hpos : PosE e) (hd1 : 1 ≤ dm) (hdm : dm < 900) (hB : B < 90000)
    (hk : ∀ w', SM w' base tb num dm dr D s sl F → FX base tsS w w' → k (rdS ((getON dm (absN dm s tb) (kyD e dm 1)).getD none)) w') :
    F60 k (some ⟨tb, 0, none⟩) e.vs w := by
  unfold F60
  rw [NN_mk]
  refine load_ptr (i := 0) h.top rfl ?_
  refine F60_L1_rule (I := fun rt en v7 slp i w0 => ∃ m x, rt = some ⟨tb, 0, none⟩ ∧ en = e.vs ∧ slp = some ⟨sl x, 0, none⟩ ∧ m + 1 ≤ dm ∧ i = ((dm - (m + 1) : Nat) : Int) ∧ SM w0 base tb num dm dr D s sl F ∧ lev x = m + 1 ∧ RIn tb B (m + 1) x D s ∧ (s x).e = none ∧ DtOk w0 e ∧
      ∀ w', SM w' base tb num dm dr D s sl F → FX base tsS w0 w' → k (rdS ((getON (m + 1) (absN (m + 1) s x) (kyD e (m + 1) (dm - m))).getD none)) w')
    (μ := fun rt en v7 slp i w0 => (dm + 1 - i : Int).toNat) ?_ ⟨dm - 1, tb, rfl, rfl, rfl, by omega, by rw [show dm - (dm - 1 + 1) = 0 by omega]; rfl, h, by rw [hL.t]; omega, by rw [show dm - 1 + 1 = dm by omega]; exact hi, h.te, he, by rw [show dm - 1 + 1 = dm by omega, show dm - (dm - 1) = 1 by omega]; exact hk⟩
  rintro _ _ v7 _ _ w0 ⟨m, x, rfl, rfl, rfl, hm, rfl, h, hlx, hi, hxe, he, hk⟩
  unfold F60_L1
  simp only [NN_mk, add_mk, Nat.zero_add]
  refine load_int (i := 1) h.top rfl ?_
  rw [decide_eq_true (show ((dm - (m + 1) : Nat) : Int) < ((dm : Nat) : Int) by omega), BIf_true]
  refine val2_intro he (by omega) fun w1 f1 => ?_
  rw [show dm - (m + 1) + 1 = dm - m by omega]
  obtain ⟨hv0, hv1⟩ := hpos (dm - m)
  rw [wrap_u64 hv0 (by omega)]
  have h1 := h.fr0 f1
  have hkl : (s x).kids.length < 100000 := by have := hi.b2 x List.mem_cons_self; omega
  have hsr := sr_keys hi.sr
  have hsv : (lvl m s (s x).kids).Pairwise (fun p q => p.1 < q.1) := hi.sr.1
  refine get_key (k := k) h1 hi.hx hxe hsr hkl fun w2 p2 c2 h2 f2 O2 => ?_
  refine one_get (k := k) O2 ?_
  have f02 : FX base tsS w0 w2 := (FX.of0 f1).trans f2
  have he2 := FX.dt he f02 (by decide)
  rcases find_bnd (v := plI e.pos (dm - m)) hsr with ⟨c, a1, a2, a3⟩ | ⟨a1, a2, _, _⟩
  · rw [a3]
    have hcm : c ∈ (s x).kids := List.mem_of_getElem? a1
    have hcD := h.kd x hi.hx c hcm
    have hg : getON (m + 1) (absN (m + 1) s x) (kyD e (m + 1) (dm - m)) = getON m (absN m s c) (kyD e m (dm - m + 1)) := get_found hsv a1 a2
    have hcl : lev c = m := by have := hL.k x hi.hx c hcm; omega
    cases m with
    | zero =>
      have hce : (s c).e.isSome = true := (hL.l c hcD).2 hcl
      rw [show (some (bnd s c)).getD Value.nilIface = bLast c from if_pos hce, nil_last, BIf_false]
      refine load_int (i := 1) h2.top rfl ?_
      refine F64_call (F64_yes (by omega) (by omega) (back_bool ?_))
      rw [BIf_true]
      refine TAs_ptr ?_
      simp only [NN_mk, add_mk, Nat.zero_add]
      have hB := h2.nodes c hcD
      obtain ⟨x0, hx0⟩ := Option.isSome_iff_exists.1 hce
      have hB : Blk w2 c 146 [.int .u64 (s c).v, x0.vs] := by
        unfold ndT ndC at hB
        rw [if_pos hce, hx0] at hB; exact hB
      refine load_any (i := 1) hB rfl ?_
      have := hk w2 h2 f02
      rw [hg, show getON 0 (absN 0 s c) (kyD e 0 (dm - 0 + 1)) = some (s c).e from rfl, hx0] at this
      exact this
    | succ m =>
      have hce : (s c).e = none := by
        cases hq : (s c).e with
        | none => rfl
        | some y =>
          have := (hL.l c hcD).1 (by rw [hq]; rfl)
          omega
      rw [show (some (bnd s c)).getD Value.nilIface = bDim c from if_neg (by rw [hce]; simp), nil_dim, BIf_false]
      refine load_int (i := 1) h2.top rfl ?_
      refine F64_call (F64_no (by omega) (by omega) (back_bool ?_))
      rw [BIf_false]
      refine TAs_ptr ?_
      simp only [NN_mk, add_mk, Nat.zero_add]
      have hB := h2.nodes c hcD
      have hB : Blk w2 c 148 [.int .u64 (s c).v, .pointer (some ⟨sl c, 0, none⟩)] := by
        unfold ndT ndC at hB
        rw [hce] at hB; exact hB
      refine load_ptr (i := 1) hB rfl ?_
      have hadd : addI .u64 ((dm - (m + 1 + 1) : Nat) : Int) 1 = ((dm - (m + 1) : Nat) : Int) := by rw [addI_u64 (by omega) (by omega)]; omega
      rw [hadd]
      refine ⟨⟨m, c, by trivial, by trivial, by trivial, by omega, by trivial, h2, hcl, RIn.found h.kd hi hcm, hce, he2, fun w' h' f' => ?_⟩, by omega⟩
      have := hk w' h' (f02.trans f')
      rw [hg, show dm - (m + 1) + 1 = dm - m by omega] at this
      exact this
  · rw [a2, show (none : Option Value).getD Value.nilIface = Value.nilIface from rfl, IfaceNil_nil, BIf_true]
    have hg : getON (m + 1) (absN (m + 1) s x) (kyD e (m + 1) (dm - m)) = none := get_not hsv a1
    have := hk w2 h2 f02
    rw [hg] at this
    exact this
end
section
variable {w : World} {k : Value → W} {base tb dm B : Nat} {L : ON (Option Dtn) dm}
/-- What there is, is in memory. -/
theorem SM.there {num : Nat} {dr : Int} {D : List Nat} {s : RSt} {sl : Nat → Nat} {F : Nat → Nat → Prop} (h1 : SM w base tb num dm dr D s sl F) (hd1 : 1 ≤ dm) {ky : List Int} {o : Option Dtn} (hg : getON dm (absN dm s tb) ky = some o) : ∃ b ∈ D, (s b).e = o := by
  have : ∀ (m : Nat) (x0 : Nat) (ky : List Int) (o : Option Dtn), (x0 = tb ∨ x0 ∈ D) → (m = 0 → x0 ∈ D) → getON m (absN m s x0) ky = some o → ∃ b ∈ D, (s b).e = o := fun m => by
    induction m with
    | zero =>
      intro x0 ky o hx0 hm hg
      have hg : some (s x0).e = some o := hg
      exact ⟨x0, hm rfl, by injection hg⟩
    | succ m ih =>
      intro x0 ky o hx0 _ hg
      cases ky with
      | nil => cases hg
      | cons v vs =>
        have hg : (lkp v (lvl m s (s x0).kids)).bind (fun y => getON m y vs) = some o := hg
        obtain ⟨y, hy, hg⟩ := Option.bind_eq_some_iff.1 hg
        have hmem : ∀ (l : List (Int × ON (Option Dtn) m)), lkp v l = some y → ∃ p ∈ l, p.2 = y := fun l => by
          induction l with
          | nil => intro h; cases h
          | cons p l ih =>
            intro h
            unfold lkp at h
            split at h
            · injection h with h; exact ⟨p, List.mem_cons_self, h⟩
            · obtain ⟨q, hq, e⟩ := ih h; exact ⟨q, List.mem_cons_of_mem _ hq, e⟩
        obtain ⟨p, hp, rfl⟩ := hmem _ hy
        obtain ⟨c, hc, rfl⟩ := List.mem_map.1 hp
        have hcD := h1.kd x0 hx0 c hc
        exact ih c vs o (.inr hcD) (fun _ => hcD) hg
  exact this dm tb _ _ (.inl rfl) (fun h => by omega) hg
theorem old_some {e x : Dtn} (h : oldE dm L e = some x) : getON dm L (kyD e dm 1) = some (some x) := by
  unfold oldE at h
  cases hq : getON dm L (kyD e dm 1) with
  | none => rw [hq] at h; cases h
  | some o => rw [hq] at h; rw [show o = some x from h]
theorem get1S {e : Dtn} (h : TrS w base tb dm B L) (he : DtOk w e) (hpos : PosE e) (hd1 : 1 ≤ dm) (hdm : dm < 900) (hB : B < 90000)
    (hk : ∀ w', TrS w' base tb dm B L → (∀ x, oldE dm L e = some x → DtOk w' x) → FX base tsS w w' → k (rdS (oldE dm L e)) w') : F60 k (some ⟨tb, 0, none⟩) e.vs w := by
  obtain ⟨D, s, sl, F, lev, dr, h1, h2, h3, h4, h5⟩ := h
  refine F60_spec h1 h2 h3 he hpos hd1 hdm hB fun w' h' f' => ?_
  rw [h4]
  refine hk w' ⟨D, s, sl, F, lev, dr, h', h2, h3, h4, h5⟩ (fun x hx => ?_) f'
  obtain ⟨b, hb, hbe⟩ := h'.there hd1 (by rw [h4]; exact old_some hx)
  exact h'.ok b hb x hbe
/-- Get. -/
theorem F53_spec {ys : List Dtn} {p : Option Addr} {c : Nat} (h : TrS w base tb dm B L) (O : Own w 76 p ys.length c (ys.map Dtn.vs)) (ok : ∀ y ∈ ys, DtOk w y) (hpos : ∀ y ∈ ys, PosE y) (hd1 : 1 ≤ dm) (hdm : dm < 900) (hB : B < 90000) (hl : ys.length < 90000)
    (hk : ∀ w' p' c', TrS w' base tb dm B L → Own w' 76 p' ys.length c' ((ys.map (oldE dm L)).map rdS) → (∀ o ∈ ys.map (oldE dm L), ∀ x, o = some x → DtOk w' x) → FX base tsS w w' → k (.slice p' ys.length c') w') :
    F53 k (some ⟨tb, 0, none⟩) p ys.length c w := by
  unfold F53
  obtain ⟨ie, g1, g2, g3, g4⟩ := inf153
  refine make_intro 0 ys.length und144 g1 g2 g3 rfl (by omega) (by omega) (Nat.zero_le _) fun w1 f1 o1 b1 z1 => ?_
  refine F53_L1_rule (I := fun ot op ol oc sp sl sc n i w' => ot = some ⟨tb, 0, none⟩ ∧ sp = p ∧ sl = ys.length ∧ sc = c ∧ n = ((ys.length : Nat) : Int) ∧ ∃ t : Nat, i = ((t : Nat) : Int) ∧ t ≤ ys.length ∧ ol = t ∧ TrS w' base tb dm B L ∧ Own w' 76 op t oc (((ys.take t).map (oldE dm L)).map rdS) ∧ (∀ b, bl op b → w.heap.size ≤ b) ∧ (∀ o ∈ (ys.take t).map (oldE dm L), ∀ x, o = some x → DtOk w' x) ∧ Own w' 76 p ys.length c (ys.map Dtn.vs) ∧ (∀ y ∈ ys, DtOk w' y) ∧ FX base tsS w w')
    (μ := fun ot op ol oc sp sl sc n i w' => ys.length - i.toNat) ?_ ⟨rfl, rfl, rfl, rfl, rfl, 0, rfl, Nat.zero_le _, rfl, h.fr0 f1, o1, (fun b hb => by have := bl_q.1 hb; omega), (fun o ho => by cases ho), O.fr f1 fun _ _ => id, fun y hy => (ok y hy).fr0 f1, .of0 f1⟩
  rintro ot op ol oc sp sl sc n i w2 ⟨e1, e2, e3, e4, rfl, t, rfl, ht, e5, h2, o2, hop, ok2, O2, oky, f2⟩
  obtain rfl := e2.symm
  obtain rfl := e4.symm
  unfold F53_L1
  rw [e1, e3, e5]
  by_cases hlt : t < ys.length
  · rw [decide_eq_true (show ((t : Nat) : Int) < ((ys.length : Nat) : Int) by omega), BIf_true]
    have hy : ys[t]? = some ys[t] := List.getElem?_eq_getElem hlt
    have hmem : ys[t] ∈ ys := List.getElem_mem hlt
    generalize ys[t] = y at hy hmem
    obtain ⟨q2, rest2, hp, hB2, _, _⟩ := O2.get (by omega)
    have hsn : (ys.take (t + 1)).map (oldE dm L) = (ys.take t).map (oldE dm L) ++ [oldE dm L y] := by rw [take_snoc hy, List.map_append]; rfl
    rw [hp, NN_mk, Req_iff, Int.toNat_natCast, add_mk, Nat.zero_add]
    refine ⟨by omega, load_any (v := y.vs) hB2 (by rw [List.getElem?_append_left (by simpa using hlt), List.getElem?_map, hy]; rfl) ?_⟩
    refine F60_call (get1S h2 (oky y hmem) (hpos y hmem) hd1 hdm hB fun w3 h3 hx3 f3 => back_any ?_)
    have o3 := f3.own o2 (by decide)
    have O3 := f3.own O2 (by decide)
    generalize hos : (ys.take t).map (oldE dm L) = os at o3 ok2 hsn
    generalize hoo : oldE dm L y = o at hx3 hsn
    have hlen : os.length = t := by rw [← hos, List.length_map, List.length_take]; omega
    refine append1 und144 g1 g2 g3 rfl g4 o3 (rdS_one' _) (rdS_cells _) (by omega) fun p' c' w4 f4 o4 hp4 z4 => ?_
    have T4 : Tys (fun b => bl op b) w3 [76] := fun b u us hb hu => by
      obtain ⟨us', h'⟩ := o3.blk hb
      rw [(hu.unique h').1]; decide
    have nT : ∀ b u us, bl op b → Blk w3 b u us → u ≠ 2 := fun b u us hb hu e => by
      have := T4 b u us hb hu
      rw [e] at this; simp at this
    have z2 := f2.size
    have z3 := f3.size
    rw [addI_i64 (by omega) (by omega), show ((t : Nat) : Int) + 1 = ((t + 1 : Nat) : Int) by omega]
    refine ⟨⟨by trivial, by trivial, by trivial, by trivial, by trivial, t + 1, by trivial, hlt, by trivial, h3.fr f4 T4 (by decide), ?_, fun b hb => ?_, ?_, ?_, fun y hy => (f3.dt (oky y hy) (by decide)).fr f4 nT, (f2.trans f3).new f4 hop⟩, by show ys.length - ((t + 1 : Nat) : Int).toNat < ys.length - ((t : Nat) : Int).toNat; omega⟩
    · rw [hsn, List.map_append]; exact o4
    · rcases hp4 b hb with h | h
      · exact hop b h
      · omega
    · rw [hsn]
      intro o' ho' x hx
      rcases List.mem_append.1 ho' with h | h
      · exact (f3.dt (ok2 o' h x hx) (by decide)).fr f4 nT
      · rw [List.mem_singleton] at h; rw [h] at hx
        exact (hx3 x hx).fr f4 nT
    · rw [← hp]; exact O3.fr f4 fun b hb hb' => by have := O.lt hb; have := hop b hb'; omega
  · rw [decide_eq_false (show ¬ ((t : Nat) : Int) < ((ys.length : Nat) : Int) by omega), BIf_false]
    have : t = ys.length := by omega
    subst this
    rw [List.take_length] at o2 ok2
    exact hk w2 _ _ h2 o2 ok2 f2
end
end Go.Proofs.YtfokodpnoiilbaaGreat.E

namespace Go.Proofs.YtfokodpnoiilbaaGreat.E
open Go
set_option linter.unusedSimpArgs false
set_option linter.unusedVariables false
set_option maxRecDepth 100000
set_option maxHeartbeats 8000000

theorem ta200 (p : Option Addr) (l c : Nat) (i : Int) (w : World) : (Instr.typeAssert (.iface 91 (.agg #[.slice p l c, .int .i64 i])) 76 91 true).run Tryz.prog w = .ok (.tuple #[.agg #[.slice p l c, .int .i64 i], .bool true]) w := by kernel_rfl
theorem ta200n (w : World) : (Instr.typeAssert .nilIface 76 91 true).run Tryz.prog w = .ok (.tuple #[.agg #[.slice none 0 0, .int .i64 0], .bool false]) w := by kernel_rfl
section
variable {w : World} {k : Value → W}
theorem ta_rdS {o : Option Dtn} {f : Option Addr → Nat → Nat → Int → Bool → W} (hk : f (o.getD dtn0).p (o.getD dtn0).pos.length (o.getD dtn0).c (o.getD dtn0).val o.isSome w) : RawS Tryz.prog (Instr.typeAssert (rdS o) 76 91 true) (.tup [(.agg [.slice, (.int .i64)]), (.one .bool)]) f w := by
  cases o with
  | none => exact ⟨((none, 0, 0), 0, false, ()), ta200n w, hk⟩
  | some x => exact ⟨((x.p, x.pos.length, x.c), x.val, true, ()), ta200 _ _ _ _ w, hk⟩
/-- spots. -/
theorem F21_spec {xs : List PD} {p : Option Addr} {c : Nat} (h : Sl (DoK 42) w p xs) (hs : ∀ x ∈ xs, x.1.length < 1000) (hl : xs.length < 1000000) (hk : ∀ w' p' c' (ys : List Dtn), Own w' 76 p' xs.length c' (ys.map Dtn.vs) → ys.map Dtn.pl = xs → (∀ y ∈ ys, DtOk w' y) → Fr (fun _ => False) w w' → k (.slice p' xs.length c') w') : F21 k p xs.length c w := by
  obtain ⟨i, g1, g2, g3, g4⟩ := inf153
  unfold F21
  refine F21_L1_rule (I := fun op ol oc sp sl sc n i w' => sp = p ∧ sl = xs.length ∧ sc = c ∧ n = ((xs.length : Nat) : Int) ∧ ∃ (t : Nat) (ys : List Dtn), i = ((t : Nat) : Int) ∧ t ≤ xs.length ∧ ol = t ∧ Own w' 76 op ol oc (ys.map Dtn.vs) ∧ ys.map Dtn.pl = xs.take t ∧ (∀ y ∈ ys, DtOk w' y) ∧ (∀ b, bl op b → w.heap.size ≤ b) ∧ Fr (fun _ => False) w w')
    (μ := fun op ol oc sp sl sc n i w' => xs.length - i.toNat) ?_ ⟨rfl, rfl, rfl, rfl, 0, [], rfl, Nat.zero_le _, rfl, Own.nil _ _, rfl, fun y hy => (by cases hy), (fun b ⟨_, h, _⟩ => by cases h), Fr.refl _ _⟩
  rintro op ol oc sp sl sc n i w1 ⟨e0, e1, e2, rfl, t, ys, rfl, ht, rfl, O1, hp1, hok, hop, f1⟩
  obtain rfl := e0.symm
  obtain rfl := e2.symm
  unfold F21_L1
  rw [e1]
  have hz1 := f1.size
  by_cases hlt : ol < xs.length
  · rw [decide_eq_true (show ((ol : Nat) : Int) < ((xs.length : Nat) : Int) by omega), BIf_true]
    have hx : xs[ol]? = some xs[ol] := List.getElem?_eq_getElem hlt
    have hmem := List.getElem_mem hlt
    generalize xs[ol] = x at hx hmem
    obtain ⟨q, o, rfl, dp, dc, c0, c1, hI⟩ := (h.fr0 f1).get hx
    have oky : DtOk w1 ⟨dp, dc, x.1, x.2⟩ := ⟨hI, hs _ hmem⟩
    simp only [NN_mk, Int.toNat_natCast, add_mk]
    refine ⟨by omega, LoadT_slice.2 ⟨_, _, _, c0, LoadT_int.2 ⟨_, c1, ?_⟩⟩⟩
    refine new_intro fun n w2 e2 b2 f2 z2 => ?_
    refine store_intro (i := 0) b2 (by simp) rfl fun w3 b3 f3 z3 => ?_
    refine store_intro (i := 1) b3 (by simp) rfl fun w4 b4 f4 z4 => ?_
    have f14 : Fr (fun _ => False) w1 w4 := by
      have : Fr (fun b => b = n) w1 w4 := ((f2.mono (S' := fun b => b = n) fun _ h => h.elim).trans f3 fun _ h => .inl h).trans f4 fun _ h => .inl h
      exact this.mono fun b h => .inr (by have h : b = n := h; omega)
    have b4 : Blk w4 n 42 [.slice dp x.1.length dc, .int .i64 x.2] := b4
    refine load_slice (i := 0) b4 rfl (load_int (i := 1) b4 rfl ?_)
    have O4 := O1.fr f14 fun _ _ => id
    refine append1 und143 g1 g2 g3 rfl g4 O4 (v := Dtn.vs ⟨dp, dc, x.1, x.2⟩) rfl rfl (by omega) fun p' c' w7 f7 O7 hp7 z7 => ?_
    have T7 : Tys (fun b => bl op b) w4 [76] := fun b u us hb hu => by
      obtain ⟨us', h'⟩ := O4.blk hb
      rw [(hu.unique h').1]; decide
    rw [addI_i64 (by omega) (by omega)]
    have n2 : ∀ b u us, bl op b → Blk w4 b u us → u ≠ 2 := fun b u us hb hu e => by
      have := T7 b u us hb hu
      rw [e] at this; simp at this
    have z14 := f14.size
    refine ⟨⟨by trivial, by trivial, by trivial, by trivial, ol + 1, ys ++ [⟨dp, dc, x.1, x.2⟩], by omega, hlt, rfl, ?_, ?_, fun z hz => ?_, fun b hb => ?_, (f1.trans f14 fun _ h => h.elim).trans f7 fun b hb => .inr (hop b hb)⟩, ?_⟩
    · rw [List.map_append]; exact O7
    · rw [List.map_append, hp1, take_snoc hx]; rfl
    · rcases List.mem_append.1 hz with hz | hz
      · exact ((hok z hz).fr0 f14).fr f7 n2
      · rw [List.mem_singleton] at hz
        subst hz
        exact (oky.fr0 f14).fr f7 n2
    · rcases hp7 b hb with h | h
      · exact hop b h
      · omega
    · show xs.length - (((ol : Nat) : Int) + 1).toNat < xs.length - ((ol : Nat) : Int).toNat
      omega
  · rw [decide_eq_false (show ¬ ((ol : Nat) : Int) < ((xs.length : Nat) : Int) by omega), BIf_false]
    have : ol = xs.length := by omega
    subst this
    rw [List.take_length] at hp1
    exact hk w1 op oc ys O1 hp1 hok f1
theorem bld_do {y : Dtn} {f : Option Addr → Nat → Nat → W} (hy : Sl In64K w y.p y.pos) (hk : ∀ n w', n = w.heap.size → Blk w' n 42 [.slice y.p y.pos.length y.c, .int .i64 y.val] → Sl In64K w' y.p y.pos → Fr (fun _ => False) w w' → w'.heap.size = n + 1 → f (some ⟨n, 0, none⟩) 1 1 w') :
    RawT Tryz.prog (Instr.buildSlice 27 1 [(0, .agg #[.slice y.p y.pos.length y.c, .int .i64 y.val])].toArray) (.s (.one .slice)) f w := by
  obtain ⟨i87, g1, g2, g3, g4⟩ := inf87
  exact build_intro und46 g1 g2 (by omega) (by omega) (fill87 y.p y.pos.length y.c _ i87 g3) fun w5 f5 b5 z5 => hk _ w5 rfl b5 (hy.fr0 f5) f5 z5
theorem app_do {y : Dtn} {f : Option Addr → Nat → Nat → W} {ty : TypeId} {cs : Array Bool} {p : Option Addr} {l c n d : Nat} {xs : List PD} (h : SlO (DoK 42) w p l c xs) (hB : Blk w n 42 [.slice y.p y.pos.length y.c, .int .i64 y.val]) (hy : Sl In64K w y.p y.pos) (hl : l < 4000000000)
    (hk : ∀ p' c' w', Fr (fun b => bl p b) w w' → SlO (DoK 42) w' p' (l + 1) c' (xs ++ [y.pl]) → (∀ b, bl p' b → bl p b ∨ w.heap.size ≤ b) → f p' (l + 1) c' w') :
    NextT Tryz.prog (builtin .append #[27, 27] ty cs [.slice p l c, .slice (some ⟨n, 0, none⟩) 1 d].toArray) (.s (.one .slice)) f w := by
  obtain ⟨i87, g1, g2, g3, g4⟩ := inf87
  refine SlO.append (K := DoK 42) und46 g1 g2 g3 (by decide) rfl g4 (by decide) h hB (ys := [y.pl]) (Rows.one ⟨y.p, y.c, rfl, rfl, hy⟩) rfl rfl (fun u hu => ?_) (by omega) hk
  simp only [List.mem_cons, List.not_mem_nil, or_false] at hu
  rcases hu with rfl | rfl <;> rfl
/-- answerSpots. -/
theorem F20_spec {os : List (Option Dtn)} {p : Option Addr} {c : Nat} (O : Own w 76 p os.length c (os.map rdS)) (ok : ∀ o ∈ os, ∀ x, o = some x → DtOk w x) (hl : os.length < 1000000)
    (hk : ∀ w' p' c' q d, SlO (DoK 42) w' p' os.length c' (os.map fun o => pdO (o.map Dtn.pl)) → SlO BoK w' q os.length d (os.map Option.isSome) → Fr (fun _ => False) w w' → k (.agg #[.slice p' os.length c', .slice q os.length d, .slice none 0 0, .int .u64 0]) w') : F20 k p os.length c w := by
  unfold F20
  refine new_intro fun n2 wa ea ba fa za => new_intro fun n3 wb eb bb fb zb => ?_
  have ba := ba.fr fb id
  have fab := fa.trans fb fun _ h => h.elim
  refine F20_L1_rule (I := fun a4 a5 sp sl sc n i w' => a4 = ⟨n2, 0, none⟩ ∧ a5 = ⟨n3, 0, none⟩ ∧ sp = p ∧ sl = os.length ∧ sc = c ∧ n = ((os.length : Nat) : Int) ∧ ∃ (t : Nat) (op hp : Option Addr) (oc hc : Nat), i = ((t : Nat) : Int) ∧ t ≤ os.length ∧ Blk w' n2 38 [.slice none 0 0, .slice none 0 0, .slice none 0 0, .int .u64 0] ∧ Blk w' n3 38 [.slice op t oc, .slice hp t hc, .slice none 0 0, .int .u64 0] ∧
      SlO (DoK 42) w' op t oc ((os.take t).map fun o => pdO (o.map Dtn.pl)) ∧ SlO BoK w' hp t hc ((os.take t).map Option.isSome) ∧ (∀ b, bl op b → w.heap.size ≤ b) ∧ (∀ b, bl hp b → w.heap.size ≤ b) ∧ Fr (fun _ => False) w w')
    (μ := fun a4 a5 sp sl sc n i w' => os.length - i.toNat) ?_ ⟨rfl, rfl, rfl, rfl, rfl, rfl, 0, none, none, 0, 0, rfl, Nat.zero_le _, ba, bb, SlO.nil _ _, SlO.nil _ _, (fun b ⟨_, h, _⟩ => by cases h), (fun b ⟨_, h, _⟩ => by cases h), fab⟩
  rintro a4 a5 sp sl sc n i w1 ⟨rfl, rfl, e0, e1, e2, rfl, t, op, hp, oc, hc, rfl, ht, c2, c3, O1, H1, hop, hhp, f1⟩
  obtain rfl := e0.symm
  obtain rfl := e2.symm
  unfold F20_L1
  rw [e1]
  have hz1 := f1.size
  by_cases hlt : t < os.length
  · rw [decide_eq_true (show ((t : Nat) : Int) < ((os.length : Nat) : Int) by omega), BIf_true]
    have hx : os[t]? = some os[t] := List.getElem?_eq_getElem hlt
    have hmem : os[t] ∈ os := List.getElem_mem hlt
    generalize os[t] = o at hx hmem
    have Ow := O.fr f1 fun _ _ => id
    obtain ⟨q2, rest2, hpp, hB2, _, _⟩ := Ow.get (by omega)
    rw [hpp, NN_mk, Req_iff, Int.toNat_natCast, add_mk, Nat.zero_add]
    refine ⟨by omega, load_any (v := rdS o) hB2 (by rw [List.getElem?_append_left (by simpa using hlt), List.getElem?_map, hx]; rfl) (ta_rdS ?_)⟩
    have okx : Sl In64K w1 (o.getD dtn0).p (o.getD dtn0).pos := by
      cases ho : o with
      | none => exact Sl.nil _ _ _
      | some x => exact ((ok o hmem x ho).fr0 f1).1
    have hpd := pdO_pl o
    generalize o.getD dtn0 = y at okx hpd
    refine new_intro fun n15 w2 e2' b2 f2 z2 => ?_
    refine store_intro (i := 0) b2 (by simp) rfl fun w3 b3 f3 z3 => ?_
    refine store_intro (i := 1) b3 (by simp) rfl fun w4' b4' f4' z4' => ?_
    refine drw_intro fun w4 f4d z4 => ?_
    have b4 : Blk w4 n15 91 [.slice y.p y.pos.length y.c, .int .i64 y.val] := b4'.fr f4d id
    have f14 : Fr (fun _ => False) w1 w4 := by
      have : Fr (fun b => b = n15) w1 w4 := (((f2.mono (S' := fun b => b = n15) fun _ h => h.elim).trans f3 fun _ h => .inl h).trans f4' fun _ h => .inl h).trans f4d fun _ h => h.elim
      exact this.mono fun b h => .inr (by have h : b = n15 := h; omega)
    have z14 := f14.size
    have d2 := c2.fr f14 id
    have d3 := c3.fr f14 id
    simp only [add_mk, Nat.zero_add]
    refine load_slice (i := 0) d3 rfl (load_slice (i := 0) b4 rfl (load_int (i := 1) b4 rfl (load_slice (i := 1) d3 rfl ?_)))
    have y4 := okx.fr0 f14
    have O4 := O1.fr0 f14
    have H4 := H1.fr0 f14
    have g87 : ∀ {wx : World}, SlO (DoK 42) wx op t oc ((os.take t).map fun o => pdO (o.map Dtn.pl)) → Tys (fun b => bl op b) wx [42] := fun h => h.ty
    have g4 : ∀ {wx : World}, SlO BoK wx hp t hc ((os.take t).map Option.isSome) → Tys (fun b => bl hp b) wx [4] := fun h => h.ty
    -- the end
    have fin : ∀ (wz : World) (p' q' : Option Addr) (c' d' : Nat) (K : W), Blk wz n2 38 [.slice none 0 0, .slice none 0 0, .slice none 0 0, .int .u64 0] → Blk wz n3 38 [.slice op t oc, .slice hp t hc, .slice none 0 0, .int .u64 0] → SlO (DoK 42) wz p' (t + 1) c' (((os.take t).map fun o => pdO (o.map Dtn.pl)) ++ [y.pl]) → SlO BoK wz q' (t + 1) d' ((os.take t).map Option.isSome ++ [o.isSome]) → Fr (fun _ => False) w wz →
        (∀ wx, Blk wx n2 38 [.slice none 0 0, .slice none 0 0, .slice none 0 0, .int .u64 0] → Blk wx n3 38 [.slice p' (t + 1) c', .slice q' (t + 1) d', .slice none 0 0, .int .u64 0] → SlO (DoK 42) wx p' (t + 1) c' ((os.take (t + 1)).map fun o => pdO (o.map Dtn.pl)) → SlO BoK wx q' (t + 1) d' ((os.take (t + 1)).map Option.isSome) → Fr (fun _ => False) w wx → K wx) →
        (Store1 ⟨n3, 0, none⟩ (.slice p' (t + 1) c') <| Store1 ⟨n3, 1, none⟩ (.slice q' (t + 1) d') K) wz := fun wz p' q' c' d' K k2 k3 A H fz hK => by
      refine store_intro (i := 0) k3 (by simp) rfl fun wy by' fy zy => ?_
      refine store_intro (i := 1) by' (by simp) rfl fun wx bx fx zx => ?_
      have bx : Blk wx n3 38 [.slice p' (t + 1) c', .slice q' (t + 1) d', .slice none 0 0, .int .u64 0] := bx
      have fzx : Fr (fun b => b = n3) wz wx := fy.trans fx fun _ h => .inl h
      have T : Tys (fun b => b = n3) wz [38] := Tys.one k3
      refine hK wx (k2.fr fzx (fun e => by omega)) bx ?_ ?_ (fz.trans fzx fun b hb => .inr (by have hb : b = n3 := hb; have := fa.size; omega))
      · rw [take_snoc hx, List.map_append, List.map_cons, List.map_nil, hpd]; exact A.fr fzx T (by decide)
      · rw [take_snoc hx, List.map_append, List.map_cons, List.map_nil]; exact H.fr fzx T (by decide)
    refine ⟨?_, ?_⟩
    · refine bld_do y4 fun n5 w5 e5 b5 y5 f5 z5 => ?_
      have d25 := d2.fr f5 id
      have d35 := d3.fr f5 id
      have d45 := b4.fr f5 id
      refine chk (i := 1) d35 rfl (chk (i := 0) d35 rfl ⟨?_, ?_⟩)
      · refine app_do (O4.fr0 f5) b5 y5 (by omega) fun p6 c6 w6 f6 O6 hp6 => ?_
        have T6 := g87 (O4.fr0 f5)
        have d26 := blk_ty d25 f6 T6 (by decide)
        have d36 := blk_ty d35 f6 T6 (by decide)
        have d46 := blk_ty d45 f6 T6 (by decide)
        refine chk (i := 1) d36 rfl (chk (i := 0) d46 rfl (chk (i := 1) d46 rfl ?_))
        have H6 := (H4.fr0 f5).fr f6 T6 (by decide)
        refine bld_bo fun n7 w7 e7 b7 f7 z7 => ?_
        have d27 := d26.fr f7 id
        have d37 := d36.fr f7 id
        have d47 := d46.fr f7 id
        refine chk (i := 1) d37 rfl (chk (i := 0) d47 rfl (chk (i := 1) d47 rfl (chk (i := 0) d37 rfl ?_)))
        refine app_bo (H6.fr0 f7) b7 (by omega) fun p8 c8 w8 f8 H8 hp8 => ?_
        have T8 := g4 (H6.fr0 f7)
        have d28 := blk_ty d27 f8 T8 (by decide)
        have d38 := blk_ty d37 f8 T8 (by decide)
        have d48 := blk_ty d47 f8 T8 (by decide)
        refine chk (i := 0) d48 rfl (chk (i := 1) d48 rfl (chk (i := 0) d38 rfl ?_))
        have z6 := f6.size
        refine fin w8 p6 p8 c6 c8 _ d28 d38 ((O6.fr0 f7).fr f8 T8 (by decide)) H8 (((((f1.trans f14 fun _ h => h.elim).trans f5 fun _ h => h.elim).trans f6 fun b hb => .inr (hop b hb)).trans f7 fun _ h => h.elim).trans f8 fun b hb => .inr (hhp b hb)) fun wx k2 k3 A H fx => ?_
        rw [addI_i64 (by omega) (by omega), show ((t : Nat) : Int) + 1 = ((t + 1 : Nat) : Int) by omega]
        refine ⟨⟨by trivial, by trivial, by trivial, by trivial, by trivial, by trivial, t + 1, p6, p8, c6, c8, by trivial, hlt, k2, k3, A, H, fun b hb => ?_, fun b hb => ?_, fx⟩, by show os.length - ((t + 1 : Nat) : Int).toNat < os.length - ((t : Nat) : Int).toNat; omega⟩
        · rcases hp6 b hb with h | h
          · exact hop b h
          · omega
        · rcases hp8 b hb with h | h
          · exact hhp b h
          · omega
      · refine bld_bo fun n7 w7 e7 b7 f7 z7 => ?_
        have d27 := d25.fr f7 id
        have d37 := d35.fr f7 id
        have d47 := d45.fr f7 id
        refine chk (i := 1) d37 rfl (chk (i := 0) d47 rfl (chk (i := 1) d47 rfl (chk (i := 0) d37 rfl ?_)))
        refine app_do ((O4.fr0 f5).fr0 f7) (b5.fr f7 id) (y5.fr0 f7) (by omega) fun p6 c6 w6 f6 O6 hp6 => ?_
        have T6 := g87 ((O4.fr0 f5).fr0 f7)
        have d26 := blk_ty d27 f6 T6 (by decide)
        have d36 := blk_ty d37 f6 T6 (by decide)
        have d46 := blk_ty d47 f6 T6 (by decide)
        refine chk (i := 1) d36 rfl (chk (i := 0) d46 rfl (chk (i := 1) d46 rfl ?_))
        have H6 := ((H4.fr0 f5).fr0 f7).fr f6 T6 (by decide)
        refine app_bo H6 (blk_ty b7 f6 T6 (by decide)) (by omega) fun p8 c8 w8 f8 H8 hp8 => ?_
        have T8 := g4 H6
        have d28 := blk_ty d26 f8 T8 (by decide)
        have d38 := blk_ty d36 f8 T8 (by decide)
        have d48 := blk_ty d46 f8 T8 (by decide)
        refine chk (i := 0) d48 rfl (chk (i := 1) d48 rfl (chk (i := 0) d38 rfl ?_))
        have z6 := f6.size
        refine fin w8 p6 p8 c6 c8 _ d28 d38 (O6.fr f8 T8 (by decide)) H8 (((((f1.trans f14 fun _ h => h.elim).trans f5 fun _ h => h.elim).trans f7 fun _ h => h.elim).trans f6 fun b hb => .inr (hop b hb)).trans f8 fun b hb => .inr (hhp b hb)) fun wx k2 k3 A H fx => ?_
        rw [addI_i64 (by omega) (by omega), show ((t : Nat) : Int) + 1 = ((t + 1 : Nat) : Int) by omega]
        refine ⟨⟨by trivial, by trivial, by trivial, by trivial, by trivial, by trivial, t + 1, p6, p8, c6, c8, by trivial, hlt, k2, k3, A, H, fun b hb => ?_, fun b hb => ?_, fx⟩, by show os.length - ((t + 1 : Nat) : Int).toNat < os.length - ((t : Nat) : Int).toNat; omega⟩
        · rcases hp6 b hb with h | h
          · exact hop b h
          · omega
        · rcases hp8 b hb with h | h
          · exact hhp b h
          · omega
    · refine bld_bo fun n7 w7 e7 b7 f7 z7 => ?_
      have d27 := d2.fr f7 id
      have d37 := d3.fr f7 id
      have d47 := b4.fr f7 id
      refine chk (i := 1) d37 rfl (chk (i := 0) d47 rfl (chk (i := 1) d47 rfl (chk (i := 0) d37 rfl ?_)))
      refine bld_do (y4.fr0 f7) fun n5 w5 e5 b5 y5 f5 z5 => ?_
      have d25 := d27.fr f5 id
      have d35 := d37.fr f5 id
      have d45 := d47.fr f5 id
      refine chk (i := 1) d35 rfl (chk (i := 0) d35 rfl ?_)
      refine app_do ((O4.fr0 f7).fr0 f5) b5 y5 (by omega) fun p6 c6 w6 f6 O6 hp6 => ?_
      have T6 := g87 ((O4.fr0 f7).fr0 f5)
      have d26 := blk_ty d25 f6 T6 (by decide)
      have d36 := blk_ty d35 f6 T6 (by decide)
      have d46 := blk_ty d45 f6 T6 (by decide)
      refine chk (i := 1) d36 rfl (chk (i := 0) d46 rfl (chk (i := 1) d46 rfl ?_))
      have H6 := ((H4.fr0 f7).fr0 f5).fr f6 T6 (by decide)
      refine app_bo H6 (blk_ty (b7.fr f5 id) f6 T6 (by decide)) (by omega) fun p8 c8 w8 f8 H8 hp8 => ?_
      have T8 := g4 H6
      have d28 := blk_ty d26 f8 T8 (by decide)
      have d38 := blk_ty d36 f8 T8 (by decide)
      have d48 := blk_ty d46 f8 T8 (by decide)
      refine chk (i := 0) d48 rfl (chk (i := 1) d48 rfl (chk (i := 0) d38 rfl ?_))
      have z6 := f6.size
      refine fin w8 p6 p8 c6 c8 _ d28 d38 (O6.fr f8 T8 (by decide)) H8 (((((f1.trans f14 fun _ h => h.elim).trans f7 fun _ h => h.elim).trans f5 fun _ h => h.elim).trans f6 fun b hb => .inr (hop b hb)).trans f8 fun b hb => .inr (hhp b hb)) fun wx k2 k3 A H fx => ?_
      rw [addI_i64 (by omega) (by omega), show ((t : Nat) : Int) + 1 = ((t + 1 : Nat) : Int) by omega]
      refine ⟨⟨by trivial, by trivial, by trivial, by trivial, by trivial, by trivial, t + 1, p6, p8, c6, c8, by trivial, hlt, k2, k3, A, H, fun b hb => ?_, fun b hb => ?_, fx⟩, by show os.length - ((t + 1 : Nat) : Int).toNat < os.length - ((t : Nat) : Int).toNat; omega⟩
      · rcases hp6 b hb with h | h
        · exact hop b h
        · omega
      · rcases hp8 b hb with h | h
        · exact hhp b h
        · omega
  · rw [decide_eq_false (show ¬ ((t : Nat) : Int) < ((os.length : Nat) : Int) by omega), BIf_false]
    have : t = os.length := by omega
    subst this
    rw [List.take_length] at O1 H1
    simp only [add_mk, Nat.zero_add]
    refine load_slice (i := 0) c3 rfl (load_slice (i := 1) c3 rfl (load_slice (i := 2) c3 rfl (load_int (i := 3) c3 rfl ?_)))
    refine fin33 c2 rfl fun w' f' => ?_
    have T : Tys (fun b => b = n2) w1 [38] := Tys.one c2
    exact hk w' op oc hp hc (O1.fr f' T (by decide)) (H1.fr f' T (by decide)) (f1.trans f' fun b hb => .inr (by have hb : b = n2 := hb; omega))
end
end Go.Proofs.YtfokodpnoiilbaaGreat.E

namespace Go.Proofs.YtfokodpnoiilbaaGreat.E
open Go
set_option linter.unusedSimpArgs false
set_option linter.unusedVariables false
set_option maxRecDepth 100000
set_option maxHeartbeats 8000000

/-! ## Plain -/
def PosP (x : PD) : Prop := ∀ i, 0 ≤ plI x.1 i ∧ plI x.1 i < 9223372036854775808
def stepSM (dm : Nat) (M : OP dm) (s : DStp) : OP dm := if s.op = 1 then addsP dm M s.dots else M
def stepSA (dm : Nat) (M : OP dm) (s : DStp) : DAns := if s.op = 1 then ansD (oldsP dm M s.dots) else if s.op = 3 then ansD (s.dots.map (oldP dm M)) else ⟨[], [], szN dm M⟩
def runSM (dm : Nat) (M : OP dm) (ss : List DStp) : OP dm := ss.foldl (stepSM dm) M
def runSA (dm : Nat) : OP dm → List DStp → List DAns
  | _, [] => []
  | M, s :: ss => stepSA dm M s :: runSA dm (stepSM dm M s) ss
theorem runSM_snoc (dm : Nat) (M : OP dm) (ss : List DStp) (s : DStp) : runSM dm M (ss ++ [s]) = stepSM dm (runSM dm M ss) s := by unfold runSM; rw [List.foldl_append]; rfl
theorem runSA_snoc (dm : Nat) : ∀ (ss : List DStp) (M : OP dm) (s : DStp), runSA dm M (ss ++ [s]) = runSA dm M ss ++ [stepSA dm (runSM dm M ss) s]
  | [], M, s => rfl
  | t :: ss, M, s => by
    show stepSA dm M t :: runSA dm (stepSM dm M t) (ss ++ [s]) = stepSA dm M t :: runSA dm (stepSM dm M t) ss ++ [stepSA dm (runSM dm (stepSM dm M t) ss) s]
    rw [runSA_snoc dm ss]; rfl
theorem runSA_length (dm : Nat) : ∀ (ss : List DStp) (M : OP dm), (runSA dm M ss).length = ss.length
  | [], _ => rfl
  | s :: ss, M => by show (runSA dm _ ss).length + 1 = _; rw [runSA_length dm ss]; rfl
/-- What a step asks. -/
def okS3 (s : DStp) : Prop := (∀ x ∈ s.dots, x.1.length < 1000 ∧ PosP x) ∧ s.dots.length < 80000 ∧ (s.op = 1 ∨ s.op = 3 ∨ s.op = 6)
def TrSB (w : World) (base tb dm B : Nat) (M : OP dm) : Prop := ∃ L, TrS w base tb dm B L ∧ mapE dm L = M
theorem FX.tsB {base' : Nat} {ts : List TypeId} {w w' : World} {base tb dm B : Nat} {M : OP dm} (h : TrSB w base tb dm B M) (f : FX base' ts w w') (ht : ∀ u ∈ ts, u ∉ [60, 146, 148, 107, 117, 101, 29, 2]) : TrSB w' base tb dm B M := by
  obtain ⟨L, h1, h2⟩ := h
  exact ⟨L, f.ts h1 ht, h2⟩
theorem TrSB.fr0 {w w' : World} {base tb dm B : Nat} {M : OP dm} (h : TrSB w base tb dm B M) (f : Fr (fun _ => False) w w') : TrSB w' base tb dm B M := FX.tsB (ts := []) (base' := 0) h (.of0 f) fun u hu => by cases hu
theorem m_sadd (p a : Option Addr) (l c : Nat) (w : World) : (callMethod (.iface 57 (.pointer p)) "Add" [.slice a l c].toArray).run Tryz.prog w = .ok (.enter 50 #[.pointer p, .slice a l c]) w := by kernel_rfl
theorem m_sget (p a : Option Addr) (l c : Nat) (w : World) : (callMethod (.iface 57 (.pointer p)) "Get" [.slice a l c].toArray).run Tryz.prog w = .ok (.enter 53 #[.pointer p, .slice a l c]) w := by kernel_rfl
theorem m_slen (p : Option Addr) (w : World) : (callMethod (.iface 57 (.pointer p)) "Len" [].toArray).run Tryz.prog w = .ok (.enter 55 #[.pointer p]) w := by kernel_rfl
section
variable {w : World} {k : Value → W} {base tb dm B : Nat} {M : OP dm}
theorem mo_sadd {p : Option Addr} {x : W} (h : x w) : MethOk Tryz.prog (.func (.method "Add") #[.iface 57 (.pointer p)] #[]) x w := ⟨fun w' => by kernel_rfl, h⟩
theorem mo_sget {p : Option Addr} {x : W} (h : x w) : MethOk Tryz.prog (.func (.method "Get") #[.iface 57 (.pointer p)] #[]) x w := ⟨fun w' => by kernel_rfl, h⟩
theorem pos_pl {ys : List Dtn} {xs : List PD} (h : ys.map Dtn.pl = xs) (hx : ∀ x ∈ xs, PosP x) : ∀ y ∈ ys, PosE y := fun y hy => hx y.pl (by rw [← h]; exact List.mem_map.2 ⟨y, hy, rfl⟩)
/-- A step. -/
theorem F16_spec {s : DStp} {on dim idx num : Int} {p pl ph : Option Addr} {c cl ch : Nat} (h : TrSB w base tb dm B M) (hS : Sl (DoK 42) w p s.dots) (hlo : Sl In64K w pl s.low) (hhi : Sl In64K w ph s.high) (ok : okS3 s) (hd1 : 1 ≤ dm) (hdm : dm < 900) (hB : B + s.dots.length < 90000)
    (hk : ∀ w' p' c' q d, TrSB w' base tb dm (B + s.dots.length) (stepSM dm M s) → Sl (DoK 42) w' p' (stepSA dm M s).dots → Sl BoK w' q (stepSA dm M s).is → FX base tsS w w' → k (.agg #[.slice p' (stepSA dm M s).dots.length c', .slice q (stepSA dm M s).is.length d, .slice none 0 0, .int .u64 (((stepSA dm M s).n : Nat) : Int)]) w') :
    F16 k (.iface 57 (.pointer (some ⟨tb, 0, none⟩))) s.op on p s.dots.length c pl s.low.length cl ph s.high.length ch dim idx num ((s.most : Nat) : Int) w := by
  obtain ⟨hsh, hdl, hops⟩ := ok
  unfold F16
  refine new_intro fun n11 w1 e1 b1 f1 z1 => new_intro fun n12 w2 e2 b2 f2 z2 => ?_
  have b1 := b1.fr f2 id
  refine load_slice (i := 3) b1 rfl (load_slice (i := 4) b1 rfl ?_)
  refine new_intro fun n15 w3 e3 b3 f3 z3 => ?_
  refine store_intro (i := 0) b3 (by simp) rfl fun w4 b4 f4 z4 => ?_
  refine store_intro (i := 1) b4 (by simp) rfl fun w5 b5 f5 z5 => ?_
  refine store_intro (i := 2) b5 (by simp) rfl fun w6 b6 f6 z6 => ?_
  have f36 : Fr (fun b => b = n15) w3 w6 := (f4.trans f5 fun _ h => .inl h).trans f6 fun _ h => .inl h
  have b1 := (b1.fr f3 id).fr f36 (fun e => by omega)
  have b2 := (b2.fr f3 id).fr f36 (fun e => by omega)
  have f02 : Fr (fun _ => False) w w6 := ((f1.trans f2 fun _ h => h.elim).trans f3 fun _ h => h.elim).trans f36 fun b hb => .inr (by have hb : b = n15 := hb; omega)
  refine load_int (i := 0) b1 rfl ?_
  -- the end: an answer of entries
  have fin : ∀ (wz : World) (os : List (Option Dtn)) (p' : Option Addr) (c' : Nat) (q : Option Addr) (d : Nat), TrSB wz base tb dm (B + s.dots.length) (stepSM dm M s) → ansD (os.map (Option.map Dtn.pl)) = stepSA dm M s → Blk wz n12 38 [.slice none 0 0, .slice none 0 0, .slice none 0 0, .int .u64 0] →
      SlO (DoK 42) wz p' os.length c' (os.map fun o => pdO (o.map Dtn.pl)) → SlO BoK wz q os.length d (os.map Option.isSome) → FX base tsS w wz →
      (Store1 ⟨n12, 0, none⟩ (.slice p' os.length c') <|
       Store1 ⟨n12, 1, none⟩ (.slice q os.length d) <|
       Store1 ⟨n12, 2, none⟩ (.slice none 0 0) <|
       Store1 ⟨n12, 3, none⟩ (.int .u64 0) <|
       LoadT .slice ⟨n12, 0, none⟩ fun s1p s1l s1c =>
       LoadT .slice ⟨n12, 1, none⟩ fun s2p s2l s2c =>
       LoadT .slice ⟨n12, 2, none⟩ fun s3p s3l s3c =>
       LoadT (.int .u64) ⟨n12, 3, none⟩ fun x4 =>
       k (.agg #[.slice s1p s1l s1c, .slice s2p s2l s2c, .slice s3p s3l s3c, .int .u64 x4])) wz := fun wz os p' c' q d hz ea bz A H fz => by
    refine fin33 bz rfl fun w' f' => ?_
    have T : Tys (fun b => b = n12) wz [38] := Tys.one bz
    have ed : (stepSA dm M s).dots = os.map fun o => pdO (o.map Dtn.pl) := by rw [← ea]; unfold ansD; rw [List.map_map]; rfl
    have ei : (stepSA dm M s).is = os.map Option.isSome := by
      rw [← ea]
      show (os.map (Option.map Dtn.pl)).map Option.isSome = _
      rw [List.map_map]
      exact List.map_congr_left fun o _ => by cases o <;> rfl
    have en : (stepSA dm M s).n = 0 := by rw [← ea]; rfl
    have := hk w' p' c' q d (FX.tsB (base' := 0) hz ⟨_, f', T, fun _ _ => Nat.zero_le _⟩ (by decide)) (by rw [ed]; exact A.sl.fr f' T (by decide)) (by rw [ei]; exact H.sl.fr f' T (by decide)) (fz.new f' fun b hb => by have hb : b = n12 := hb; omega)
    rw [ed, ei, en, List.length_map, List.length_map] at this
    exact this
  rcases hops with o1 | o3 | o6
  · have eM : stepSM dm M s = addsP dm M s.dots := if_pos o1
    have eA : stepSA dm M s = ansD (oldsP dm M s.dots) := if_pos o1
    rw [show (s.op == 1) = true by rw [o1]; rfl, BIf_true]
    refine drw_intro fun w3 f3 z3 => ?_
    have b13 := b1.fr f3 id
    refine load_slice (i := 2) b13 rfl (mo_sadd ?_)
    have f03 := f02.trans f3 fun _ h => h.elim
    refine F21_call (F21_spec (hS.fr0 f03) (fun x hx => (hsh x hx).1) (by omega) fun w4 p4 c4 ys O4 hys ok4 f4 => back_slice ?_)
    have f04 := f03.trans f4 fun _ h => h.elim
    have hyl : s.dots.length = ys.length := by rw [← hys, List.length_map]
    obtain ⟨L, hT, hL⟩ := h.fr0 f04
    rw [hyl] at O4 hB
    have b14 := b13.fr f4 id
    rw [hyl]
    refine NextT_enter (m_sadd _ _ _ _ w4) (F50_calls (F50_spec hT O4 ok4 (pos_pl hys fun x hx => (hsh x hx).2) hd1 hdm hB fun w5 p5 c5 hT5 O5 ok5 f5 => back_slice ?_))
    have b15 := f5.blk b14 (by decide)
    refine chk (i := 2) b15 (by rw [← hyl]; rfl) ?_
    have hol := oldsE_length dm ys L
    rw [← hol] at O5
    rw [← hol]
    refine F20_call (F20_spec O5 ok5 (by rw [hol]; omega) fun w6 p6 c6 q6 d6 A6 H6 f6 => back_da ?_)
    refine chk (i := 2) (b15.fr f6 id) (by rw [hol, ← hyl]; rfl) ?_
    refine fin w6 _ p6 c6 q6 d6 ?_ ?_ ((f5.blk ((b2.fr f3 id).fr f4 id) (by decide)).fr f6 id) A6 H6 (((FX.of0 f04).trans f5).trans (.of0 f6))
    · rw [eM, hyl, ← hys, ← hL]
      exact ⟨_, hT5.fr0 f6, mapE_adds dm ys L⟩
    · rw [eA, mapE_olds, hL, hys]
  · have eM : stepSM dm M s = M := if_neg (by omega)
    have eA : stepSA dm M s = ansD (s.dots.map (oldP dm M)) := by unfold stepSA; rw [if_neg (by omega), if_pos o3]
    rw [show (s.op == 1) = false from beq_eq_false_iff_ne.2 (by omega), BIf_false, show (s.op == 2) = false from beq_eq_false_iff_ne.2 (by omega), BIf_false, show (s.op == 3) = true by rw [o3]; rfl, BIf_true]
    refine drw_intro fun w3 f3 z3 => ?_
    have b13 := b1.fr f3 id
    refine load_slice (i := 2) b13 rfl (mo_sget ?_)
    have f03 := f02.trans f3 fun _ h => h.elim
    refine F21_call (F21_spec (hS.fr0 f03) (fun x hx => (hsh x hx).1) (by omega) fun w4 p4 c4 ys O4 hys ok4 f4 => back_slice ?_)
    have f04 := f03.trans f4 fun _ h => h.elim
    have hyl : s.dots.length = ys.length := by rw [← hys, List.length_map]
    obtain ⟨L, hT, hL⟩ := h.fr0 f04
    rw [hyl] at O4 hB
    have b14 := b13.fr f4 id
    rw [hyl]
    refine NextT_enter (m_sget _ _ _ _ w4) (F53_calls (F53_spec hT O4 ok4 (pos_pl hys fun x hx => (hsh x hx).2) hd1 hdm (by omega) (by omega) fun w5 p5 c5 hT5 O5 ok5 f5 => back_slice ?_))
    have b15 := f5.blk b14 (by decide)
    refine chk (i := 2) b15 (by rw [← hyl]; rfl) ?_
    have hol : (ys.map (oldE dm L)).length = ys.length := List.length_map _
    rw [← hol] at O5
    rw [← hol]
    refine F20_call (F20_spec O5 ok5 (by rw [hol]; omega) fun w6 p6 c6 q6 d6 A6 H6 f6 => back_da ?_)
    refine chk (i := 2) (b15.fr f6 id) (by rw [hol, ← hyl]; rfl) ?_
    refine fin w6 _ p6 c6 q6 d6 ?_ ?_ ((f5.blk ((b2.fr f3 id).fr f4 id) (by decide)).fr f6 id) A6 H6 (((FX.of0 f04).trans f5).trans (.of0 f6))
    · rw [eM, ← hL]
      exact ⟨_, (hT5.fr0 f6).le (by omega), rfl⟩
    · rw [eA, ← hys, List.map_map, List.map_map]
      congr 1
      exact List.map_congr_left fun y _ => by
        show (oldE dm L y).map Dtn.pl = oldP dm M y.pl
        rw [mapE_old, hL]
  · have eM : stepSM dm M s = M := if_neg (by omega)
    have eA : stepSA dm M s = ⟨[], [], szN dm M⟩ := by unfold stepSA; rw [if_neg (by omega), if_neg (by omega)]
    rw [show (s.op == 1) = false from beq_eq_false_iff_ne.2 (by omega), BIf_false, show (s.op == 2) = false from beq_eq_false_iff_ne.2 (by omega), BIf_false, show (s.op == 3) = false from beq_eq_false_iff_ne.2 (by omega), BIf_false, show (s.op == 4) = false from beq_eq_false_iff_ne.2 (by omega), BIf_false, show (s.op == 5) = false from beq_eq_false_iff_ne.2 (by omega), BIf_false, show (s.op == 6) = true by rw [o6]; rfl, BIf_true]
    obtain ⟨L, hT, hL⟩ := h.fr0 f02
    refine NextT_enter (m_slen _ w6) (F55_calls (F55_spec hT (back_int ?_)))
    refine fin33 b2 rfl fun w' f' => ?_
    have T : Tys (fun b => b = n12) w6 [38] := Tys.one b2
    have := hk w' none 0 none 0 (FX.tsB (base' := 0) (by rw [eM]; exact ⟨L, hT.le (by omega), hL⟩) ⟨_, f', T, fun _ _ => Nat.zero_le _⟩ (by decide)) (by rw [eA]; exact Sl.nil _ _ _) (by rw [eA]; exact Sl.nil _ _ _) ((FX.of0 f02).new f' fun b hb => by have hb : b = n12 := hb; omega)
    rw [eA, ← hL] at this
    have es : szN dm (mapE dm L) = szN dm L := szN_map _ dm L
    rw [es] at this
    exact this
/-- SRRun. -/
theorem F7_spec {seed : Int} {ss : List DStp} {sp : Option Addr} {sc : Nat} (hd1 : 1 ≤ dm) (hdm : dm < 900) (hS : Sl DStK w sp ss) (ok : ∀ s ∈ ss, okS3 s) (hl : ss.length < 1000) (ht : totD ss < 80000)
    (hk : ∀ w' p c, Sl DAnK w' p (runSA dm (mapE dm (nilN dm)) ss) → Fr (fun _ => False) w w' → k (.slice p ss.length c) w') : F7 k ((dm : Nat) : Int) seed sp ss.length sc w := by
  obtain ⟨i59, g1, g2, g3, g4⟩ := inf59
  unfold F7
  refine F15_call (F15_spec (base := w.heap.size) hd1 hdm (Nat.le_refl _) fun w0 tb h0 f0 => back_any ?_)
  generalize hM0 : mapE dm (nilN dm) = M0 at hk
  have h0 : TrSB w0 w.heap.size tb dm 0 M0 := ⟨_, h0, hM0⟩
  refine F7_L1_rule (I := fun t' op ol oc sp' sl' sc' n j w' => t' = .iface 57 (.pointer (some ⟨tb, 0, none⟩)) ∧ sp' = sp ∧ sl' = ss.length ∧ sc' = sc ∧ n = ((ss.length : Nat) : Int) ∧ ∃ t : Nat, j = ((t : Nat) : Int) ∧ t ≤ ss.length ∧ ol = t ∧ TrSB w' w.heap.size tb dm (totD (ss.take t)) (runSM dm M0 (ss.take t)) ∧
      SlO DAnK w' op ol oc (runSA dm M0 (ss.take t)) ∧ (∀ b, bl op b → w.heap.size ≤ b) ∧ FX w.heap.size tsS w w')
    (μ := fun t' op ol oc sp' sl' sc' n j w' => ss.length - j.toNat) ?_ ⟨rfl, rfl, rfl, rfl, rfl, 0, rfl, Nat.zero_le _, rfl, h0, SlO.nil _ _, (fun b ⟨_, h, _⟩ => by cases h), .of0 f0⟩
  rintro _ op ol oc _ sl' sc' n j w1 ⟨rfl, rfl, e1, e2, rfl, t, rfl, htl, rfl, h1, O1, hop, f1⟩
  obtain rfl := e2.symm
  unfold F7_L1
  rw [e1]
  have hz1 := f1.size
  by_cases hlt : ol < ss.length
  · rw [decide_eq_true (show ((ol : Nat) : Int) < ((ss.length : Nat) : Int) by omega), BIf_true]
    have hx : ss[ol]? = some ss[ol] := List.getElem?_eq_getElem hlt
    have hmem : ss[ol] ∈ ss := List.getElem_mem hlt
    generalize ss[ol] = st at hx hmem
    have okst := ok st hmem
    have hSw : Sl DStK w1 _ ss := f1.sl hS (by decide)
    obtain ⟨q, o, rfl, on, dp, dc, pl, cl, ph, ch, dim, idx, num, c0, c1, c2, c3, c4, c5, c6, c7, c8, hI, hlo, hhi⟩ := hSw.get hx
    simp only [NN_mk, Int.toNat_natCast, add_mk]
    refine ⟨by omega, LoadT_int.2 ⟨_, c0, LoadT_int.2 ⟨_, c1, LoadT_slice.2 ⟨_, _, _, c2, LoadT_slice.2 ⟨_, _, _, c3, LoadT_slice.2 ⟨_, _, _, c4, LoadT_int.2 ⟨_, c5, LoadT_int.2 ⟨_, c6, LoadT_int.2 ⟨_, c7, LoadT_int.2 ⟨_, c8, ?_⟩⟩⟩⟩⟩⟩⟩⟩⟩⟩
    refine new_intro fun n w2 e2 b2 f2 z2 => ?_
    refine store_intro (i := 0) b2 (by simp) rfl fun w3 b3 f3 z3 => ?_
    refine store_intro (i := 1) b3 (by simp) rfl fun w4 b4 f4 z4 => ?_
    refine store_intro (i := 2) b4 (by simp) rfl fun w5 b5 f5 z5 => ?_
    refine store_intro (i := 3) b5 (by simp) rfl fun w6 b6 f6 z6 => ?_
    refine store_intro (i := 4) b6 (by simp) rfl fun w7 b7 f7 z7 => ?_
    refine store_intro (i := 5) b7 (by simp) rfl fun w8 b8 f8 z8 => ?_
    refine store_intro (i := 6) b8 (by simp) rfl fun w9 b9 f9 z9 => ?_
    refine store_intro (i := 7) b9 (by simp) rfl fun wa ba fa za => ?_
    refine store_intro (i := 8) ba (by simp) rfl fun wb bb fb zb => ?_
    have bb : Blk wb n 31 [.int .i64 st.op, .int .i64 on, .slice dp st.dots.length dc, .slice pl st.low.length cl, .slice ph st.high.length ch, .int .u64 dim, .int .i64 idx, .int .i64 num, .int .i64 ((st.most : Nat) : Int)] := bb
    have i : ∀ x, x = n → x = n ∨ w1.heap.size ≤ x := fun _ h => .inl h
    have f14 : Fr (fun _ => False) w1 wb := by
      have : Fr (fun b => b = n) w1 wb := (((((((((f2.mono (S' := fun b => b = n) fun _ h => h.elim).trans f3 i).trans f4 i).trans f5 i).trans f6 i).trans f7 i).trans f8 i).trans f9 i).trans fa i).trans fb i
      exact this.mono fun b h => .inr (by have h : b = n := h; omega)
    refine load_int (i := 0) bb rfl (load_int (i := 1) bb rfl (load_slice (i := 2) bb rfl (load_slice (i := 3) bb rfl (load_slice (i := 4) bb rfl (load_int (i := 5) bb rfl (load_int (i := 6) bb rfl (load_int (i := 7) bb rfl (load_int (i := 8) bb rfl ?_))))))))
    have hsnL : runSM dm M0 (ss.take (ol + 1)) = stepSM dm (runSM dm M0 (ss.take ol)) st := by rw [take_snoc hx, runSM_snoc]
    have hsnA : runSA dm M0 (ss.take (ol + 1)) = runSA dm M0 (ss.take ol) ++ [stepSA dm (runSM dm M0 (ss.take ol)) st] := by rw [take_snoc hx, runSA_snoc]
    have hsnT : totD (ss.take (ol + 1)) = totD (ss.take ol) + st.dots.length := by rw [take_snoc hx, totD_snoc]
    have htt := totD_take ss (ol + 1)
    refine F16_call (F16_spec (h1.fr0 f14) (hI.fr0 f14) (hlo.fr0 f14) (hhi.fr0 f14) okst hd1 hdm (by omega) fun wc pc cc qc dc h5 A5 H5 f5 => back_da ?_)
    generalize hst : stepSA dm (runSM dm M0 (ss.take ol)) st = a at *
    refine build_intro und55 g1 g2 (by omega) (by omega) (fill59 _ _ _ _ _ _ _ _ _ _ i59 g3) fun wd fd bd zd => ?_
    have O5 : SlO DAnK wc op ol oc (runSA dm M0 (ss.take ol)) := f5.slO (O1.fr0 f14) (by decide)
    have f05 : FX w.heap.size tsS w wc := (f1.trans (.of0 f14)).trans f5
    have z05 := f05.size
    have O6 := O5.fr0 fd
    have z5 := f5.size
    have z14 := f14.size
    refine SlO.append (K := DAnK) und55 g1 g2 g3 (by decide) rfl g4 (by decide) O6 bd (ys := [a]) (Rows.one ⟨pc, cc, qc, dc, rfl, rfl, rfl, rfl, A5.fr0 fd, H5.fr0 fd⟩) rfl rfl (fun u hu => ?_) (by omega) fun p' c' we fe O7 hp7 => ?_
    · simp only [List.mem_cons, List.not_mem_nil, or_false] at hu
      rcases hu with rfl | rfl | rfl | rfl <;> rfl
    rw [addI_i64 (by omega) (by omega)]
    have T7 : Tys (fun b => bl op b) wd [38] := O6.ty
    refine ⟨⟨by trivial, by trivial, by trivial, by trivial, by trivial, ol + 1, by omega, hlt, by trivial, ?_, ?_, fun b hb => ?_, (f05.trans (.of0 fd)).new fe fun b hb => hop b hb⟩, ?_⟩
    · rw [hsnL, hsnT]; exact FX.tsB (h5.fr0 fd) ⟨_, fe, T7, fun _ _ => Nat.zero_le _⟩ (by decide)
    · rw [hsnA]; exact O7
    · rcases hp7 b hb with h | h
      · exact hop b h
      · have := fd.size; omega
    · show ss.length - (((ol : Nat) : Int) + 1).toNat < ss.length - ((ol : Nat) : Int).toNat
      omega
  · rw [decide_eq_false (show ¬ ((ol : Nat) : Int) < ((ss.length : Nat) : Int) by omega), BIf_false]
    have : ol = ss.length := by omega
    subst this
    rw [List.take_length] at O1
    exact hk w1 op oc O1.sl (f1.fr0 (Nat.le_refl _))
end
end Go.Proofs.YtfokodpnoiilbaaGreat.E
