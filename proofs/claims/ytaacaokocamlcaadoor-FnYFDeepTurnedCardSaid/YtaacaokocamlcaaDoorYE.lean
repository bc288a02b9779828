/-
  A y-fast trie made; entries inserted; what was overwritten, told.
-/
import Derived.Test.YtaacaokocamlcaaDoorYD
namespace Go.Proofs.YtaacaokocamlcaaDoor.E
open Go
set_option linter.unusedSimpArgs false
set_option linter.unusedVariables false
set_option maxRecDepth 100000
set_option maxHeartbeats 8000000

namespace YT
variable {w w' : World} {t B : Nat} {S S0 : Nat → Prop} {s : PSt}
theorem lt (h : YT w t B S s) {b : Nat} (hb : S b) : b < w.heap.size := by
  obtain ⟨x, Sx, xs, bd, H, hS, hB⟩ := h
  rcases (hS b).1 hb with rfl | h | ⟨k, d, hd, rfl | h⟩
  · exact H.hd.lt
  · exact H.X.lt h
  · exact (H.bq k d hd).lt
  · exact (H.bo k d hd).lt h
theorem low (h : YT w t B S s) {b : Nat} (hb : S b) : 2 ≤ b := by
  obtain ⟨x, Sx, xs, bd, H, hS, hB⟩ := h
  exact H.low b ((hS b).1 hb)
theorem tabs (h : YT w t B S s) : Tabs w := by
  obtain ⟨x, Sx, xs, bd, H, hS, hB⟩ := h
  exact H.X.tabs
theorem kinds (h : YT w t B S s) : Tys S w [94, 82, 88, 91, 107, 76] := fun b u us hb hu => by
  obtain ⟨x, Sx, xs, bd, H, hS, hB⟩ := h
  exact H.kinds ((hS b).1 hb) hu
theorem fr (h : YT w t B S s) (f : Fr S0 w w') (hd : ∀ b, S b → ¬ S0 b) (h0 : ¬ S0 0) (h1 : ¬ S0 1) : YT w' t B S s := by
  obtain ⟨x, Sx, xs, bd, H, hS, hB⟩ := h
  exact ⟨x, Sx, xs, bd, H.fr f (fun b hb => hd b ((hS b).2 hb)) h0 h1, hS, hB⟩
theorem fr0 (h : YT w t B S s) (f : Fr (fun _ => False) w w') : YT w' t B S s := h.fr f (fun _ _ => id) id id
theorem get {k : Value → W} {q : Nat} (h : YT w t B S s) (hq : q < 2 ^ B) (hk : ∀ w', Fr (fun _ => False) w w' → k (ovr q (s.m q)) w') : F37 k (some ⟨t, 0, none⟩) (q : Nat) w := by
  obtain ⟨x, Sx, xs, bd, H, hS, hB⟩ := h
  exact F37_spec H hB hq hk
theorem len {k : Value → W} (h : YT w t B S s) (hk : k (.int .u64 (s.num : Nat)) w) : F38 k (some ⟨t, 0, none⟩) w := by
  obtain ⟨x, Sx, xs, bd, H, hS, hB⟩ := h
  unfold F38
  simp only [NN_mk]
  exact load_int (i := 0) H.hd rfl hk
end YT
theorem F44_J1_spec {k : Value → W} {w : World} {t B : Nat} (h : Bits B) (Ta : Tabs w) (ht : 2 ≤ t) (hB : Blk w t 94 [.int .u64 0, .pointer none, .int .u8 (B : Nat)])
    (hk : ∀ S w', YT w' t B S PSt.new → (∀ b, S b → b = t ∨ w.heap.size ≤ b) → Fr (fun b => b = t) w w' → k (.tuple #[]) w') : F44_J1 k (some ⟨t, 0, none⟩) (uni B) w := by
  unfold F44_J1
  refine F22_call (F22_XT h Ta fun x Sx w1 X1 hS1 f1 => back_p ?_)
  have b1 := hB.fr f1 id
  simp only [NN_mk]
  refine store_intro (i := 1) b1 (by simp) rfl fun w2 b2 f2 z2 => ?_
  have htl := hB.lt
  have hnt : ∀ b, Sx b → ¬ b = t := fun b hb e => by have := hS1 b hb; omega
  refine hk (YS t Sx fun _ => none) w2 ⟨x, Sx, XSt.new, fun _ => none, ⟨b2, X1.fr f2 hnt (fun e => by have e : 0 = t := e; omega) (fun e => by have e : 1 = t := e; omega) (fun q v hv => by cases hv), fun _ => rfl, (fun _ _ h => by cases h), (fun _ _ h => by cases h), (fun _ _ h => by cases h), fun _ _ _ _ => rfl, (fun _ _ _ _ h => by cases h), Nat.le_refl _, fun b hb => ?_⟩, fun b => Iff.rfl, h⟩ (fun b hb => ?_) ((f1.mono fun _ h => h.elim).trans f2 fun b h => .inl h)
  · rcases hb with rfl | hb | ⟨_, _, h, _⟩
    · exact ht
    · exact X1.low hb
    · cases h
  · rcases hb with rfl | hb | ⟨_, _, h, _⟩
    · exact .inl rfl
    · exact .inr (hS1 b hb)
    · cases h
theorem F44_spec {k : Value → W} {w : World} {t B : Nat} (h : Bits B) (Ta : Tabs w) (ht : 2 ≤ t) (hB : Blk w t 94 [.int .u64 0, .pointer none, .int .u8 0])
    (hk : ∀ S w', YT w' t B S PSt.new → (∀ b, S b → b = t ∨ w.heap.size ≤ b) → Fr (fun b => b = t) w w' → k (.tuple #[]) w') : F44 k (some ⟨t, 0, none⟩) (uni B) w := by
  have st : ∀ w1, Blk w1 t 94 [.int .u64 0, .pointer none, .int .u8 (B : Nat)] → Fr (fun b => b = t) w w1 → F44_J1 k (some ⟨t, 0, none⟩) (uni B) w1 := fun w1 b1 f1 =>
    F44_J1_spec h (Ta.fr f1 (fun e => by have e : 0 = t := e; omega) (fun e => by have e : 1 = t := e; omega)) ht b1 fun S w' Y hS f => hk S w' Y (fun b hb => (hS b hb).imp id fun h => by have := f1.size; omega) (f1.trans f fun b h => .inl h)
  unfold F44
  rcases h with rfl | rfl | rfl | rfl
  · refine ta (t8_8 w) (extb (exti ?_))
    simp only [BIf_true, NN_mk]
    exact store_intro (i := 2) hB (by simp) rfl fun w1 b1 f1 z1 => st w1 b1 f1
  · refine ta (t16_8 w) (extb (exti ?_))
    simp only [BIf_false]
    refine ta (t16_16 w) (extb (exti ?_))
    simp only [BIf_true, NN_mk]
    exact store_intro (i := 2) hB (by simp) rfl fun w1 b1 f1 z1 => st w1 b1 f1
  · refine ta (t32_8 w) (extb (exti ?_))
    simp only [BIf_false]
    refine ta (t32_16 w) (extb (exti ?_))
    simp only [BIf_false]
    refine ta (t32_32 w) (extb (exti ?_))
    simp only [BIf_true, NN_mk]
    exact store_intro (i := 2) hB (by simp) rfl fun w1 b1 f1 z1 => st w1 b1 f1
  · refine ta (t64_8 w) (extb (exti ?_))
    simp only [BIf_false]
    refine ta (t64_16 w) (extb (exti ?_))
    simp only [BIf_false]
    refine ta (t64_32 w) (extb (exti ?_))
    simp only [BIf_false]
    refine ta (t64_68 w) (extb (exti ?_))
    refine ta (t64_22 w) (extb (exti ?_))
    simp only [BIf_false]
    unfold F44_J2
    simp only [BIf_true, NN_mk]
    exact store_intro (i := 2) hB (by simp) rfl fun w1 b1 f1 z1 => st w1 b1 f1
theorem F33_spec {k : Value → W} {w : World} {B : Nat} (h : Bits B) (Ta : Tabs w) (hk : ∀ t S w', YT w' t B S PSt.new → (∀ b, S b → w.heap.size ≤ b) → Fr (fun _ => False) w w' → k (.pointer (some ⟨t, 0, none⟩)) w') : F33 k (uni B) w := by
  have h2 := Ta.sz
  unfold F33
  refine new_intro fun t w1 e1 b1 f1 z1 => ?_
  refine F44_call (F44_spec h (Ta.fr f1 id id) (by omega) b1 fun S w2 Y hS f2 => back0 ?_)
  exact hk t S w2 Y (fun b hb => by rcases hS b hb with h | h <;> omega) (f1.trans f2 fun b h => .inr (by have : b = t := h; omega))
/-- What insertions overwrite. -/
def ovs (s : PSt) : List Itm → List (Option Itm)
  | [] => []
  | x :: xs => ((s.m x.1).map fun v => (x.1, v)) :: ovs (s.ins x) xs
def OV : Option Itm → Value | none => .nilIface | some y => EI y
theorem ovr_OV (x : Nat) (o : Option Int) : ovr x o = OV (o.map fun v => (x, v)) := by cases o <;> rfl
theorem ovs_snoc : ∀ (xs : List Itm) (s : PSt) (x : Itm), ovs s (xs ++ [x]) = ovs s xs ++ [((s.insAll xs).m x.1).map fun v => (x.1, v)]
  | [], s, x => rfl
  | a :: xs, s, x => by
    show _ :: ovs _ (xs ++ [x]) = _ :: _
    rw [ovs_snoc xs]; rfl
theorem ovs_length : ∀ (xs : List Itm) (s : PSt), (ovs s xs).length = xs.length
  | [], _ => rfl
  | a :: xs, s => by show (ovs _ xs).length + 1 = _; rw [ovs_length xs]; rfl
theorem PSt.insAll_snoc (s : PSt) (xs : List Itm) (x : Itm) : s.insAll (xs ++ [x]) = (s.insAll xs).ins x := by unfold PSt.insAll; rw [List.foldl_append]; rfl
/-- Insert. -/
theorem F35_spec {k : Value → W} {w : World} {t B : Nat} {S : Nat → Prop} {s : PSt} {p : Option Addr} {c : Nat} {xs : List Itm} (h : YT w t B S s) (hO : Own w 76 p xs.length c (xs.map EI)) (hS : ∀ b, bl p b → ¬ S b) (hxs : ∀ x ∈ xs, x.1 < 2 ^ B) (hl : s.num + xs.length < 4000000000)
    (hk : ∀ S' op oc w', YT w' t B S' (s.insAll xs) → (∀ b, S' b → S b ∨ w.heap.size ≤ b) → Own w' 76 op xs.length oc ((ovs s xs).map OV) → (∀ b, bl op b → w.heap.size ≤ b ∧ ¬ S' b) → Fr S w w' → k (.slice op xs.length oc) w') : F35 k (some ⟨t, 0, none⟩) p xs.length c w := by
  obtain ⟨i76, g1, g2, g3, g4⟩ := inf76
  unfold F35
  refine make_intro 0 xs.length und73 g1 g2 g3 rfl (by omega) (by omega) (by omega) fun w0 f0 o0 b0 z0 => ?_
  have h0 := h.fr0 f0
  refine F35_L1_rule (fun yt op ol oc sp sl sc n i w' => yt = some ⟨t, 0, none⟩ ∧ sp = p ∧ sl = xs.length ∧ sc = c ∧ n = (xs.length : Nat) ∧ ∃ (j : Nat) (S' : Nat → Prop), i = j ∧ j ≤ xs.length ∧ ol = j ∧ YT w' t B S' (s.insAll (xs.take j)) ∧ (∀ b, S' b → S b ∨ w.heap.size ≤ b) ∧ Own w' 76 op ol oc ((ovs s (xs.take j)).map OV) ∧ (∀ b, bl op b → w.heap.size ≤ b ∧ ¬ S' b) ∧ Fr S w w')
    (fun _ _ _ _ _ _ _ n i _ => (n - i).toNat) ?_ ⟨rfl, rfl, rfl, rfl, rfl, 0, S, rfl, Nat.zero_le _, rfl, h0, fun b hb => .inl hb, o0, fun b hb => ?_, f0.mono fun _ h => h.elim⟩
  rotate_left
  · obtain ⟨a, ha, e⟩ := hb
    cases ha
    have e : w.heap.size = b := e
    exact ⟨by omega, fun hS' => by have := h.lt hS'; omega⟩
  rintro yt op ol oc sp sl sc n i w1 ⟨rfl, e1, rfl, e2, rfl, j, S1, rfl, hj, rfl, Y1, hS1, oo, hop, f1⟩
  obtain rfl := e1.symm; obtain rfl := e2.symm
  unfold F35_L1
  by_cases hlt : ol < xs.length
  rotate_left
  · have : ol = xs.length := by omega
    subst this
    rw [decide_eq_false (by omega)]
    simp only [BIf_false]
    rw [List.take_length] at Y1 oo
    exact hk S1 op oc w1 Y1 hS1 oo hop f1
  rw [decide_eq_true (by omega)]
  have hx : xs[ol]? = some xs[ol] := List.getElem?_eq_getElem hlt
  obtain ⟨q, rfl, c1⟩ := (hO.fr f1 hS).ei hlt
  simp only [BIf_true, NN_mk, Int.toNat_natCast, add_mk, Nat.zero_add]
  refine ⟨by omega, LoadT_any.2 ⟨_, c1, ?_⟩⟩
  have hnum := PSt.insAll_num (xs.take ol) s
  rw [List.length_take] at hnum
  refine F45_call (F45_spec Y1 (hxs _ (List.getElem_mem hlt)) (by omega) fun S2 w2 Y2 hS2 f2 => back_any ?_)
  have hz1 := f1.size
  have hopl : ∀ b, bl op b → b < w1.heap.size := fun b hb => oo.lt hb
  have hop2 : ∀ b, bl op b → ¬ S2 b := fun b hb h => by
    rcases hS2 b h with h | h
    · exact (hop b hb).2 h
    · have := hopl b hb; omega
  have oo2 := oo.fr f2 fun b hb => (hop b hb).2
  rw [ovr_OV]
  generalize hov : (((s.insAll (xs.take ol)).m xs[ol].1).map fun v => (xs[ol].1, v)) = ov
  have hone : (OV ov).oneCell' = true := by cases ov <;> rfl
  have hcel : (OV ov).cells = #[OV ov] := by cases ov <;> rfl
  refine append1 (P := Tryd.prog) und73 g1 g2 g3 rfl g4 oo2 (v := OV ov) hone hcel (by omega) fun p' c' w3 f3 o3 hp3 hz3 => ?_
  have hsz := h.tabs.sz
  have Y3 := Y2.fr f3 (fun b hb h => hop2 b h hb) (fun h => by have := (hop 0 h).1; omega) (fun h => by have := (hop 1 h).1; omega)
  have hz2 := f2.size
  rw [add_one (by omega)]
  refine ⟨⟨(by trivial), (by trivial), (by trivial), (by trivial), (by trivial), ol + 1, S2, rfl, hlt, rfl, ?_, fun b hb => ?_, ?_, fun b hb => ?_, ?_⟩, by omega⟩
  · rw [take_snoc hx, PSt.insAll_snoc]; exact Y3
  · rcases hS2 b hb with h | h
    · exact hS1 b h
    · exact .inr (by omega)
  · rw [take_snoc hx, ovs_snoc, List.map_append, hov]; exact o3
  · rcases hp3 b hb with h | h
    · exact ⟨(hop b h).1, hop2 b h⟩
    · exact ⟨by omega, fun h' => by have := Y2.lt h'; omega⟩
  · exact (f1.trans f2 fun b hb => hS1 b hb).trans f3 fun b hb => .inr (hop b hb).1
theorem tay (x y : Int) (w : World) : (Instr.typeAssert (.iface 57 (.agg #[.int .u64 x, .int .i64 y])) 76 57 true).run Tryd.prog w = .ok (.tuple #[.agg #[.int .u64 x, .int .i64 y], .bool true]) w := by kernel_rfl
theorem tayn (w : World) : (Instr.typeAssert .nilIface 76 57 true).run Tryd.prog w = .ok (.tuple #[.agg #[.int .u64 0, .int .i64 0], .bool false]) w := by kernel_rfl
/-- yfSaid. -/
theorem F34_spec {k : Value → W} {w : World} {p : Option Addr} {c : Nat} {os : List (Option Itm)} (hO : Own w 76 p os.length c (os.map OV)) (hl : os.length < 1000000000)
    (hk : ∀ pi li ci w', li = (os.filterMap id).length → Sl ItK w' pi (os.filterMap id) → Fr (fun _ => False) w w' → k (.agg #[.slice pi li ci, .int .u64 0, .bool false]) w') : F34 k p os.length c w := by
  unfold F34
  refine new_intro fun n2 w1 e1 b1 f1 z1 => ?_
  refine new_intro fun n3 w2 e2 b2 f2 z2 => ?_
  have b12 := b1.fr f2 id
  have f02 := f1.trans f2 fun _ h => h.elim
  have hO2 := hO.fr f02 fun _ _ h => h
  refine F34_L1_rule (fun a4 o5 sp sl sc n i w' => a4 = ⟨n2, 0, none⟩ ∧ o5 = ⟨n3, 0, none⟩ ∧ sp = p ∧ sl = os.length ∧ sc = c ∧ n = (os.length : Nat) ∧ ∃ (j : Nat) (lp : Option Addr) (ll lc : Nat), i = j ∧ j ≤ os.length ∧ Blk w' n3 39 [.slice lp ll lc, .int .u64 0, .bool false] ∧ SlO ItK w' lp ll lc ((os.take j).filterMap id) ∧ (∀ b, bl lp b → w2.heap.size ≤ b) ∧ Fr (fun b => b = n3) w2 w')
    (fun _ _ _ _ _ n i _ => (n - i).toNat) ?_ ⟨rfl, rfl, rfl, rfl, rfl, rfl, 0, none, 0, 0, rfl, Nat.zero_le _, b2, SlO.nil _ _, (fun b ⟨_, h, _⟩ => by cases h), Fr.refl _ _⟩
  rintro a4 o5 sp sl sc n i w3 ⟨rfl, rfl, e3, rfl, e4, rfl, j, lp, ll, lc, rfl, hj, b3, oL, hlp, f3⟩
  obtain rfl := e3.symm; obtain rfl := e4.symm
  have hn3 : n3 < w2.heap.size := b2.lt
  have hz3 := f3.size
  unfold F34_L1
  by_cases hlt : j < os.length
  rotate_left
  · have : j = os.length := by omega
    subst this
    rw [decide_eq_false (by omega)]
    simp only [BIf_false, add_mk, Nat.zero_add]
    rw [List.take_length] at oL
    refine load_slice (i := 0) b3 rfl (load_int (i := 1) b3 rfl (load_bool (i := 2) b3 rfl ?_))
    have b13 := b12.fr f3 (by show ¬ n2 = n3; omega)
    refine store_intro (i := 0) b13 (by simp) rfl fun wa ba fa za => ?_
    refine store_intro (i := 1) ba (by simp) rfl fun wb bb fb zb => ?_
    refine store_intro (i := 2) bb (by simp) rfl fun wc bc fc zc => ?_
    refine load_slice (i := 0) bc rfl (load_int (i := 1) bc rfl (load_bool (i := 2) bc rfl ?_))
    have f3c : Fr (fun b => b = n2) w3 wc := (fa.trans fb fun b h => .inl h).trans fc fun b h => .inl h
    refine hk lp ll lc wc oL.len (oL.sl.fr f3c (Tys.one b13) (by decide)) ?_
    have a1 : Fr (fun b => b = n2 ∨ b = n3) w1 wc := ((f2.mono fun _ h => h.elim).trans f3 fun b h => .inl (.inr h)).trans f3c fun b h => .inl (.inl h)
    exact f1.trans a1 fun b h => .inr (by omega)
  rw [decide_eq_true (by omega)]
  have hx : os[j]? = some os[j] := List.getElem?_eq_getElem hlt
  have hO3 := hO2.fr f3 fun b hb e => by
    have e : b = n3 := e
    have := hO.lt hb
    omega
  obtain ⟨q, rest, rfl, _⟩ := hO3.get (by omega)
  simp only [BIf_true, NN_mk, Int.toNat_natCast, add_mk, Nat.zero_add]
  refine ⟨by omega, LoadT_any.2 ⟨OV os[j], by rw [hO3.cell hlt, List.getElem?_map, hx]; rfl, ?_⟩⟩
  have htk := take_snoc hx
  generalize os[j] = ov at *
  cases ov with
  | none =>
    refine ta2 (tayn w3) ?_
    refine new_intro fun n15 w4 e4 b4 f4 z4 => ?_
    refine store_intro (i := 0) b4 (by simp) rfl fun w5 b5 f5 z5 => ?_
    refine store_intro (i := 1) b5 (by simp) rfl fun w6 b6 f6 z6 => ?_
    simp only [BIf_false]
    have f36 : Fr (fun _ => False) w3 w6 := ((f4.mono (S' := fun b => b = n15) fun _ h => h.elim).trans f5 fun b h => .inl h).trans f6 (fun b h => .inl h) |>.mono fun b h => .inr (by omega)
    rw [add_one (by omega)]
    refine ⟨⟨(by trivial), (by trivial), (by trivial), (by trivial), (by trivial), (by trivial), j + 1, lp, ll, lc, rfl, hlt, b3.fr f36 id, ?_, hlp, f3.trans f36 fun _ h => h.elim⟩, by omega⟩
    rw [htk, List.filterMap_append]
    simpa using oL.fr0 f36
  | some y =>
    refine ta2 (tay _ _ w3) ?_
    refine new_intro fun n15 w4 e4 b4 f4 z4 => ?_
    refine store_intro (i := 0) b4 (by simp) rfl fun w5 b5 f5 z5 => ?_
    refine store_intro (i := 1) b5 (by simp) rfl fun w6 b6 f6 z6 => ?_
    simp only [BIf_true]
    have f36 : Fr (fun _ => False) w3 w6 := ((f4.mono (S' := fun b => b = n15) fun _ h => h.elim).trans f5 fun b h => .inl h).trans f6 (fun b h => .inl h) |>.mono fun b h => .inr (by omega)
    have b36 := b3.fr f36 id
    refine load_slice (i := 0) b36 rfl (load_int (i := 0) b6 rfl (load_int (i := 1) b6 rfl ?_))
    refine bld_it (x := y) rfl fun m w7 e7 b7 s7 f7 z7 => ?_
    have oL7 := (oL.fr0 f36).fr0 f7
    have hll : ll < 1000000000 := by
      have h1 := oL.len
      have h2 := List.length_filterMap_le id (os.take j)
      rw [List.length_take] at h2; omega
    refine app_it oL7 b7 (by omega) fun p' c' w8 f8 o8 hp8 => ?_
    have hz36 := f36.size
    have b38 := (b36.fr f7 id).fr f8 fun h => by have := hlp n3 h; omega
    refine store_intro (i := 0) b38 (by simp) rfl fun w9 b9 f9 z9 => ?_
    rw [add_one (by omega)]
    have hpn : ∀ b, bl p' b → w2.heap.size ≤ b := fun b hb => by
      rcases hp8 b hb with h | h
      · exact hlp b h
      · omega
    refine ⟨⟨(by trivial), (by trivial), (by trivial), (by trivial), (by trivial), (by trivial), j + 1, p', ll + 1, c', rfl, hlt, b9, ?_, hpn, ?_⟩, by omega⟩
    · rw [htk, List.filterMap_append]
      have := o8.fr' f9 (fun b hb e => by have e : b = n3 := e; have := hpn b hb; omega) fun b u us hS hu => by
        have e : b = n3 := hS
        subst e
        have := (hu.unique b38).1
        subst this
        decide
      simpa using this
    · exact (((f3.trans f36 fun _ h => h.elim).trans f7 fun _ h => h.elim).trans f8 fun b hb => .inr (hlp b hb)).trans f9 fun b h => .inl h
end Go.Proofs.YtaacaokocamlcaaDoor.E
