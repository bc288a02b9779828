/-
  A run over a y-fast trie.
-/
import Derived.Test.YtaacaokocamlcaaDoorYE
namespace Go.Proofs.YtaacaokocamlcaaDoor.E
open Go
set_option linter.unusedSimpArgs false
set_option linter.unusedVariables false
set_option maxRecDepth 100000
set_option maxHeartbeats 8000000

def ystep (s : PSt) (st : Stp) : PSt × An :=
  if st.op = 1 then (s.insAll st.items, ⟨(ovs s st.items).filterMap id, 0, false⟩)
  else if st.op = 3 then (s, fnd s (st.keys.headD 0))
  else if st.op = 5 then (s, ⟨[], s.num, false⟩)
  else (s, ⟨[], 0, false⟩)
def yend (s : PSt) (ss : List Stp) : PSt := ss.foldl (fun s st => (ystep s st).1) s
def yrun (s : PSt) : List Stp → List An
  | [] => []
  | st :: ss => (ystep s st).2 :: yrun (ystep s st).1 ss
theorem yend_snoc (s : PSt) (ss : List Stp) (st : Stp) : yend s (ss ++ [st]) = (ystep (yend s ss) st).1 := by
  unfold yend; rw [List.foldl_append]; rfl
theorem yrun_snoc : ∀ (ss : List Stp) (s : PSt) (st : Stp), yrun s (ss ++ [st]) = yrun s ss ++ [(ystep (yend s ss) st).2]
  | [], s, st => rfl
  | a :: ss, s, st => by
    show _ :: yrun _ (ss ++ [st]) = _ :: _
    rw [yrun_snoc ss]; rfl
theorem yrun_length : ∀ (ss : List Stp) (s : PSt), (yrun s ss).length = ss.length
  | [], _ => rfl
  | a :: ss, s => by show (yrun _ ss).length + 1 = _; rw [yrun_length ss]; rfl
theorem ystep_num (s : PSt) (st : Stp) : (ystep s st).1.num ≤ s.num + st.items.length := by
  unfold ystep
  split
  · exact PSt.insAll_num _ _
  · split
    · show s.num ≤ _; omega
    · split <;> (show s.num ≤ _; omega)
def Op2 (s : Stp) : Prop := s.op = 1 ∨ s.op = 3 ∨ s.op = 5
theorem und71 : Tryd.prog.underlying 71 = some (.slice 76) := by kernel_rfl
theorem F15_J1_spec {k : Value → W} {again : Option Addr → Option Addr → Nat → Nat → Option Addr → Nat → Nat → Int → Int → W} {w : World} {t sp op pi : Option Addr} {ol oc sl sc n ci li : Nat} {x i m : Int} {ans : List An} {a : An} {y : Bool} (hO : SlO AnK w op ol oc ans) (hB : Blk w n 39 [.slice pi li ci, .int .u64 m, .bool y]) (hli : li = a.items.length) (hm : m = (a.n : Nat)) (hy : y = a.yes) (hi : Sl ItK w pi a.items) (hol : ol < 4000000000)
    (hk : ∀ op' oc' w', SlO AnK w' op' (ol + 1) oc' (ans ++ [a]) → Fr (fun b => bl op b) w w' → (∀ b, bl op' b → bl op b ∨ w.heap.size ≤ b) → again t op' (ol + 1) oc' sp sl sc x (addI .i64 i 1) w') :
    F15_J1 k again t op ol oc ⟨n, 0, none⟩ sp sl sc x i w := by
  unfold F15_J1
  simp only [add_mk, Nat.zero_add]
  refine load_slice (i := 0) hB rfl (load_int (i := 1) hB rfl (load_bool (i := 2) hB rfl ?_))
  exact add_an hO hli hm hy hi hol fun p' c' w' f' o' hp => hk p' c' w' o' f' hp
theorem Tys.no {S : Nat → Prop} {w : World} {ts : List TypeId} (h : Tys S w ts) {b u : Nat} {us : List Value} (hB : Blk w b u us) (hu : u ∉ ts) : ¬ S b := fun hS => hu (h b u us hS hB)
/-- An insertion: the list of entries, the call, what it tells. -/
theorem F15_L2_spec {k : Value → W} {again : Option Addr → Option Addr → Nat → Nat → Option Addr → Nat → Nat → Int → Int → W} {w : World} {a B : Nat} {S : Nat → Prop} {s : PSt} {sp op ip : Option Addr} {ol oc sl sc n ic : Nat} {x i : Int} {ans : List An} {xs : List Itm} (Y : YT w a B S s) (hO : SlO AnK w op ol oc ans) (hB : Blk w n 39 [.slice none 0 0, .int .u64 0, .bool false]) (hI : Sl ItK w ip xs) (hxs : ∀ x ∈ xs, x.1 < 2 ^ B) (hnum : s.num + xs.length < 1000000000) (hol : ol < 4000000000) (hop : ∀ b, bl op b → 2 ≤ b ∧ ¬ b = n)
    (hk : ∀ S' op' oc' w', YT w' a B S' (s.insAll xs) → (∀ b, S' b → S b ∨ w.heap.size ≤ b) → SlO AnK w' op' (ol + 1) oc' (ans ++ [⟨(ovs s xs).filterMap id, 0, false⟩]) → Fr (fun b => S b ∨ bl op b ∨ b = n) w w' → (∀ b, bl op' b → bl op b ∨ w.heap.size ≤ b) → again (some ⟨a, 0, none⟩) op' (ol + 1) oc' sp sl sc x (addI .i64 i 1) w') :
    Loop [.ptr, .slice, .addr, .slice, .slice, (.int .i64), (.int .i64), .slice, (.int .i64), (.int .i64)] (F15_L2 k again) (some ⟨a, 0, none⟩) op ol oc ⟨n, 0, none⟩ none 0 0 sp sl sc x i ip xs.length ic ((xs.length : Nat) : Int) 0 w := by
  obtain ⟨i76, g1, g2, g3, g4⟩ := inf76
  refine F15_L2_rule (fun t op1 ol1 oc1 sd lp ll lc sp1 sl1 sc1 x1 i1 ip1 il1 ic1 m j w' => t = some ⟨a, 0, none⟩ ∧ op1 = op ∧ ol1 = ol ∧ oc1 = oc ∧ sd = ⟨n, 0, none⟩ ∧ sp1 = sp ∧ sl1 = sl ∧ sc1 = sc ∧ x1 = x ∧ i1 = i ∧ ip1 = ip ∧ il1 = xs.length ∧ m = (xs.length : Nat) ∧ ∃ h : Nat, j = h ∧ h ≤ xs.length ∧ Own w' 76 lp ll lc ((xs.take h).map EI) ∧ (∀ b, bl lp b → w.heap.size ≤ b) ∧ Fr (fun _ => False) w w')
    (fun _ _ _ _ _ _ _ _ _ _ _ _ _ _ _ _ m j _ => (m - j).toNat) ?_ ⟨rfl, rfl, rfl, rfl, rfl, rfl, rfl, rfl, rfl, rfl, rfl, rfl, rfl, 0, rfl, Nat.zero_le _, Own.nil _ _, (fun b ⟨_, h, _⟩ => by cases h), Fr.refl _ _⟩
  rintro t op1 ol1 oc1 sd lp ll lc sp1 sl1 sc1 x1 i1 ip1 il1 ic1 m j w1 ⟨rfl, e1, e2, e3, rfl, e4, e5, e6, e7, e8, e9, e10, rfl, h, rfl, hh, oL, hlp, f1⟩
  obtain rfl := e1.symm; obtain rfl := e2.symm; obtain rfl := e3.symm; obtain rfl := e4.symm; obtain rfl := e5.symm; obtain rfl := e6.symm; obtain rfl := e7.symm; obtain rfl := e8.symm; obtain rfl := e9.symm; obtain rfl := e10.symm
  have hll : ll = h := by have := oL.1; simp at this; omega
  subst hll
  unfold F15_L2
  by_cases hlt : ll < xs.length
  · rw [decide_eq_true (by omega)]
    have hx : xs[ll]? = some xs[ll] := List.getElem?_eq_getElem hlt
    obtain ⟨q, o, rfl, h0, h1⟩ := (hI.fr0 f1).get hx
    simp only [BIf_true, NN_mk, Int.toNat_natCast, add_mk]
    refine ⟨by omega, LoadT_int.2 ⟨_, h0, LoadT_int.2 ⟨_, h1, ?_⟩⟩⟩
    refine new_intro fun n33 w2 e2 b2 f2 z2 => ?_
    refine store_intro (i := 0) b2 (by simp) rfl fun w3 b3 f3 z3 => ?_
    refine store_intro (i := 1) b3 (by simp) rfl fun w4 b4 f4 z4 => ?_
    refine load_int (i := 0) b4 rfl (load_int (i := 1) b4 rfl ?_)
    have f14 : Fr (fun _ => False) w1 w4 := ((f2.mono (S' := fun b => b = n33) fun _ h => h.elim).trans f3 fun b h => .inl h).trans f4 (fun b h => .inl h) |>.mono fun b h => .inr (by omega)
    have oL4 := oL.fr f14 fun _ _ h => h
    refine append1 (P := Tryd.prog) und71 g1 g2 g3 rfl g4 oL4 (v := EI xs[ll]) rfl rfl (by omega) fun p' c' w5 f5 o5 hp5 hz5 => ?_
    have f15 : Fr (fun b => bl lp b) w1 w5 := (f14.mono fun _ h => h.elim).trans f5 fun b h => .inl h
    have hz1 := f1.size
    have hz14 := f14.size
    rw [add_one (by omega)]
    refine ⟨⟨(by trivial), (by trivial), (by trivial), (by trivial), (by trivial), (by trivial), (by trivial), (by trivial), (by trivial), (by trivial), (by trivial), (by trivial), (by trivial), ll + 1, rfl, hlt, ?_, fun b hb => ?_, f1.trans f15 fun b hb => .inr (hlp b hb)⟩, by omega⟩
    · rw [take_snoc hx, List.map_append]; exact o5
    · rcases hp5 b hb with h | h
      · exact hlp b h
      · omega
  · have : ll = xs.length := by omega
    subst this
    rw [decide_eq_false (by omega)]
    simp only [BIf_false]
    rw [List.take_length] at oL
    have Y1 := Y.fr0 f1
    have hz1 := f1.size
    refine F35_call (F35_spec Y1 oL (fun b hb hS => by have := hlp b hb; have := Y.lt hS; omega) hxs (by omega) fun S' vp vc w2 Y2 hS2 oV hvp f2 => back_slice ?_)
    have hz2 := f2.size
    have hov := ovs_length xs s
    rw [← hov] at oV ⊢
    refine F34_call (F34_spec oV (by omega) fun pi li ci w3 hli hI3 f3 => back_an ?_)
    have Y3 := Y2.fr0 f3
    have ty := Y1.kinds
    have hO3 := ((hO.fr0 f1).fr f2 ty (by decide)).fr0 f3
    have hB1 := hB.fr f1 id
    have hB3 := (hB1.fr f2 (ty.no hB1 (by decide))).fr f3 id
    simp only [add_mk, Nat.zero_add]
    refine store_intro (i := 0) hB3 (by simp) rfl fun w4 b4 f4 z4 => ?_
    refine store_intro (i := 1) b4 (by simp) rfl fun w5 b5 f5 z5 => ?_
    refine store_intro (i := 2) b5 (by simp) rfl fun w6 b6 f6 z6 => ?_
    have f36 : Fr (fun b => b = n) w3 w6 := (f4.trans f5 fun b h => .inl h).trans f6 fun b h => .inl h
    have hn2 : 2 ≤ n := by
      refine Classical.byContradiction fun hlt => ?_
      have hT := Y.tabs
      have h01 : n = 0 ∨ n = 1 := by omega
      rcases h01 with rfl | rfl
      · have h1 := hT.ps 0 (by decide)
        rw [hB.cell] at h1; cases h1
      · have h1 := hT.ms 0 (by decide)
        rw [hB.cell] at h1; cases h1
    have Y6 := Y3.fr f36 (fun b hS e => by have e : b = n := e; subst e; exact Y3.kinds.no hB3 (by decide) hS) (fun e => by have e : 0 = n := e; omega) (fun e => by have e : 1 = n := e; omega)
    have hO6 := hO3.fr' f36 (fun b hb e => (hop b hb).2 e) fun b u us hS hu => by
      have e : b = n := hS
      subst e
      have := (hu.unique hB3).1
      subst this; decide
    have hI6 := hI3.fr f36 (Tys.one hB3) (by decide)
    have hz3 := f3.size
    have hz6 := f36.size
    refine F15_J1_spec hO6 b6 (a := ⟨(ovs s xs).filterMap id, 0, false⟩) hli rfl rfl hI6 hol fun op' oc' w7 hO7 f7 hop7 => ?_
    refine hk S' op' oc' w7 (Y6.fr f7 (fun b hS hb => ?_) (fun h => by have := (hop 0 h).1; omega) (fun h => by have := (hop 1 h).1; omega)) (fun b hb => ?_) hO7 ?_ fun b hb => ?_
    · obtain ⟨us, hu⟩ := hO6.blk hb
      exact Y6.kinds.no hu (by decide) hS
    · rcases hS2 b hb with h | h
      · exact .inl h
      · exact .inr (by omega)
    · exact ((((f1.mono fun _ h => h.elim).trans f2 fun b h => .inl (.inl h)).trans f3 fun b h => h.elim).trans f36 fun b h => .inl (.inr (.inr h))).trans f7 fun b h => .inl (.inr (.inl h))
    · exact (hop7 b hb).imp id fun h => by omega
theorem F15_spec {k : Value → W} {w : World} {B c : Nat} {p : Option Addr} {ss : List Stp} (hB : Bits B) (Ta : Tabs w) (hS : Sl StK w p ss) (hops : ∀ s ∈ ss, Op2 s ∧ (∀ x ∈ s.items, x.1 < 2 ^ B) ∧ s.keys.headD 0 < 2 ^ B) (htot : tot ss < 1000000000) (hl : ss.length < 4000000000)
    (hk : ∀ op oc w', SlO AnK w' op ss.length oc (yrun PSt.new ss) → (∀ b, bl op b → w.heap.size ≤ b) → Fr (fun _ => False) w w' → k (.slice op ss.length oc) w') : F15 k (B : Nat) p ss.length c w := by
  have h2 := Ta.sz
  unfold F15
  refine F23_call (F23_spec hB (back_any ?_))
  refine F33_call (F33_spec hB Ta fun a S0 w0 X0 hS0 f0 => back_p ?_)
  refine F15_L1_rule (fun t op ol oc sp sl sc x i w' => t = some ⟨a, 0, none⟩ ∧ sp = p ∧ sl = ss.length ∧ sc = c ∧ x = (ss.length : Nat) ∧ ∃ (j : Nat) (S : Nat → Prop), i = j ∧ ol = j ∧ j ≤ ss.length ∧ YT w' a B S (yend PSt.new (ss.take j)) ∧ (∀ b, S b → w.heap.size ≤ b) ∧ SlO AnK w' op ol oc (yrun PSt.new (ss.take j)) ∧ (∀ b, bl op b → w.heap.size ≤ b) ∧ (yend PSt.new (ss.take j)).num ≤ tot (ss.take j) ∧ Fr (fun _ => False) w w')
    (fun _ _ _ _ _ _ _ x i _ => (x - i).toNat) ?_ ⟨rfl, rfl, rfl, rfl, rfl, 0, S0, rfl, rfl, Nat.zero_le _, X0, hS0, SlO.nil _ _, (fun b ⟨_, h, _⟩ => by cases h), Nat.le_refl _, f0⟩
  rintro t op ol oc sp sl sc x i w1 ⟨rfl, e1, rfl, e2, rfl, j, S, rfl, rfl, hj, X, hSw, hO, hopw, hnum, f1⟩
  obtain rfl := e1.symm; obtain rfl := e2.symm
  unfold F15_L1
  by_cases hlt : ol < ss.length
  rotate_left
  · have : ol = ss.length := by omega
    subst this
    rw [decide_eq_false (by omega)]
    simp only [BIf_false]
    rw [List.take_length] at hO
    exact hk op oc w1 hO hopw f1
  rw [decide_eq_true (by omega)]
  have hst : ss[ol]? = some ss[ol] := List.getElem?_eq_getElem hlt
  obtain ⟨hop, hkeys, hk0⟩ := hops ss[ol] (List.getElem_mem hlt)
  obtain ⟨q, o, rfl, pi, ci, pk, ck, h0, h1, h2', hI, hK⟩ := (hS.fr0 f1).get hst
  have htk := take_snoc hst
  have htt := tot_take ss (ol + 1)
  rw [htk, tot_snoc] at htt
  generalize hs : ss[ol] = st at *
  generalize hps : yend PSt.new (ss.take ol) = s at *
  simp only [BIf_true, NN_mk, Int.toNat_natCast, add_mk]
  refine ⟨by omega, LoadT_int.2 ⟨_, h0, LoadT_slice.2 ⟨_, _, _, h1, LoadT_slice.2 ⟨_, _, _, h2', ?_⟩⟩⟩⟩
  refine new_intro fun n15 w2 e2 b2 f2 z2 => ?_
  refine store_intro (i := 0) b2 (by simp) rfl fun w3 b3 f3 z3 => ?_
  refine store_intro (i := 1) b3 (by simp) rfl fun w4 b4 f4 z4 => ?_
  refine store_intro (i := 2) b4 (by simp) rfl fun w5 b5 f5 z5 => ?_
  refine new_intro fun n16 w6 e6 b6 f6 z6 => ?_
  have f25 : Fr (fun b => b = n15) w2 w5 := (f3.trans f4 fun b h => .inl h).trans f5 fun b h => .inl h
  have f15 : Fr (fun _ => False) w1 w5 := f2.trans f25 fun b h => .inr (by have : b = n15 := h; omega)
  have f16 : Fr (fun _ => False) w1 w6 := f15.trans f6 fun _ h => h.elim
  have b56 := b5.fr f6 id
  have hz15 := f15.size
  have hn16 : w1.heap.size ≤ n16 := by omega
  refine load_int (i := 0) b56 rfl ?_
  have hopen : ol < 4000000000 := by omega
  have hz1 := f1.size
  have hop2 : ∀ b, bl op b → 2 ≤ b ∧ ¬ b = n16 := fun b hb => by have := hopw b hb; have := hO.lt hb; omega
  have step : ∀ {s' : PSt} {an : An} {S' : Nat → Prop} {op' : Option Addr} {oc' : Nat} {w9 : World}, ystep s st = (s', an) → YT w9 a B S' s' → (∀ b, S' b → w.heap.size ≤ b) → SlO AnK w9 op' (ol + 1) oc' (yrun PSt.new (ss.take ol) ++ [an]) → (∀ b, bl op' b → w.heap.size ≤ b) → Fr (fun _ => False) w w9 →
      (fun (t : Option Addr) op (ol : Nat) oc sp sl sc (x i : Int) w' => t = some ⟨a, 0, none⟩ ∧ sp = (some ⟨q, o, none⟩ : Option Addr) ∧ sl = ss.length ∧ sc = c ∧ x = (ss.length : Nat) ∧ ∃ (j : Nat) (S : Nat → Prop), i = j ∧ ol = j ∧ j ≤ ss.length ∧ YT w' a B S (yend PSt.new (ss.take j)) ∧ (∀ b, S b → w.heap.size ≤ b) ∧ SlO AnK w' op ol oc (yrun PSt.new (ss.take j)) ∧ (∀ b, bl op b → w.heap.size ≤ b) ∧ (yend PSt.new (ss.take j)).num ≤ tot (ss.take j) ∧ Fr (fun _ => False) w w')
        (some ⟨a, 0, none⟩) op' (ol + 1) oc' (some ⟨q, o, none⟩) ss.length c ((ss.length : Nat) : Int) (addI .i64 ((ol : Nat) : Int) 1) w9 ∧ (((ss.length : Nat) : Int) - addI .i64 ((ol : Nat) : Int) 1).toNat < (((ss.length : Nat) : Int) - ((ol : Nat) : Int)).toNat := fun {s' an S' op' oc' w9} hx X9 hS9 hO9 hop9 f9 => by
    rw [add_one (by omega)]
    refine ⟨⟨rfl, rfl, rfl, rfl, rfl, ol + 1, S', rfl, rfl, hlt, ?_, hS9, ?_, hop9, ?_, f9⟩, by omega⟩
    · rw [htk, yend_snoc, hps, hx]; exact X9
    · rw [htk, yrun_snoc, hps, hx]; exact hO9
    · have := ystep_num s st
      rw [htk, yend_snoc, tot_snoc, hps]; omega
  have fin : ∀ {an : An} {pi : Option Addr} {ci : Nat} w8 (again), ystep s st = (s, an) → Blk w8 n16 39 [.slice pi an.items.length ci, .int .u64 (an.n : Nat), .bool an.yes] → Sl ItK w8 pi an.items → Fr (fun _ => False) w1 w8 →
      (∀ {S' : Nat → Prop} {op' : Option Addr} {oc' : Nat} {w9 : World}, YT w9 a B S' s → (∀ b, S' b → w.heap.size ≤ b) → SlO AnK w9 op' (ol + 1) oc' (yrun PSt.new (ss.take ol) ++ [an]) → (∀ b, bl op' b → w.heap.size ≤ b) → Fr (fun _ => False) w w9 → again (some ⟨a, 0, none⟩) op' (ol + 1) oc' (some ⟨q, o, none⟩) ss.length c ((ss.length : Nat) : Int) (addI .i64 ((ol : Nat) : Int) 1) w9) →
      F15_J1 k again (some ⟨a, 0, none⟩) op ol oc ⟨n16, 0, none⟩ (some ⟨q, o, none⟩) ss.length c ((ss.length : Nat) : Int) ((ol : Nat) : Int) w8 := fun {an pi ci} w8 again hx b8 hI8 f8 hag => by
    have hO8 := hO.fr0 f8
    have X8 := X.fr0 f8
    refine F15_J1_spec hO8 b8 rfl rfl rfl hI8 hopen fun op' oc' w9 hO9 f9 hop9 => ?_
    have hz8 := f8.size
    refine hag (X8.fr f9 (fun b hS hb => ?_) (fun h => by have := (hop2 0 h).1; omega) (fun h => by have := (hop2 1 h).1; omega)) hSw hO9 (fun b hb => ?_) ((f1.trans f8 fun _ h => h.elim).trans f9 fun b hb => .inr (hopw b hb))
    · obtain ⟨us, hu⟩ := hO8.blk hb
      exact X8.kinds.no hu (by decide) hS
    · rcases hop9 b hb with h | h
      · exact hopw b h
      · omega
  have K6 := hK.fr0 f16
  have I6 := hI.fr0 f16
  have X6 := X.fr0 f16
  have b66 := b6
  rcases hop with ho | ho | ho
  · rw [show (st.op == 1) = true by rw [ho]; rfl]
    simp only [BIf_true]
    refine load_slice (i := 1) b56 rfl ?_
    have hx : ystep s st = (s.insAll st.items, ⟨(ovs s st.items).filterMap id, 0, false⟩) := by unfold ystep; rw [if_pos ho]
    refine F15_L2_spec X6 (hO.fr0 f16) b6 I6 hkeys (by omega) hopen hop2 fun S' op' oc' w9 X9 hS9 hO9 f9 hop9 => ?_
    have hz16 := f16.size
    refine step hx X9 (fun b hb => ?_) hO9 (fun b hb => ?_) ((f1.trans f16 fun _ h => h.elim).trans f9 fun b hb => .inr ?_)
    · rcases hS9 b hb with h | h
      · exact hSw b h
      · omega
    · rcases hop9 b hb with h | h
      · exact hopw b h
      · omega
    · rcases hb with h | h | h
      · exact hSw b h
      · exact hopw b h
      · omega
  · rw [show (st.op == 1) = false by rw [ho]; rfl, show (st.op == 2) = false by rw [ho]; rfl, show (st.op == 3) = true by rw [ho]; rfl]
    simp only [BIf_true, BIf_false]
    refine load_slice (i := 2) b56 rfl ?_
    refine F28_call (F28_spec K6 (back_int ?_))
    refine F37_call (X6.get hk0 fun w7 f7 => back_any ?_)
    have hx : ystep s st = (s, ⟨it1 (st.keys.headD 0) (s.m (st.keys.headD 0)), 0, false⟩) := by unfold ystep; rw [if_neg (by omega), if_pos ho]; rfl
    refine F26_call (F26_spec (q := st.keys.headD 0) (o := s.m (st.keys.headD 0)) fun pi' ci' w8 hI8 f8 => back_an ?_)
    have b8 := (b6.fr f7 id).fr f8 id
    refine store_intro (i := 0) b8 (by simp) rfl fun w9 b9 f9 z9 => ?_
    refine store_intro (i := 1) b9 (by simp) rfl fun wa ba fa za => ?_
    refine store_intro (i := 2) ba (by simp) rfl fun wb bb fb zb => ?_
    have f8b : Fr (fun b => b = n16) w8 wb := (f9.trans fa fun b h => .inl h).trans fb fun b h => .inl h
    have f1b : Fr (fun _ => False) w1 wb := ((f16.trans f7 fun _ h => h.elim).trans f8 fun _ h => h.elim).trans f8b fun b h => .inr (by have : b = n16 := h; omega)
    exact fin (an := ⟨it1 (st.keys.headD 0) (s.m (st.keys.headD 0)), 0, false⟩) wb _ hx bb (hI8.fr f8b (Tys.one b8) (by decide)) f1b (step hx)
  · rw [show (st.op == 1) = false by rw [ho]; rfl, show (st.op == 2) = false by rw [ho]; rfl, show (st.op == 3) = false by rw [ho]; rfl, show (st.op == 5) = true by rw [ho]; rfl]
    simp only [BIf_true, BIf_false]
    have hx : ystep s st = (s, ⟨[], s.num, false⟩) := by unfold ystep; rw [if_neg (by omega), if_neg (by omega), if_pos ho]
    refine F38_call (X6.len (back_int ?_))
    refine store_intro (i := 1) b6 (by simp) rfl fun w7 b7 f7 z7 => ?_
    exact fin (an := ⟨[], s.num, false⟩) w7 _ hx b7 (Sl.nil _ _ _) (f16.trans f7 fun b h => .inr (by have : b = n16 := h; omega)) (step hx)
end Go.Proofs.YtaacaokocamlcaaDoor.E
