/-
  A run over an x-fast trie, whole.
-/
import Derived.Test.YtaacaokocamlcaaDoorXN
namespace Go.Proofs.YtaacaokocamlcaaDoor.E
open Go
set_option linter.unusedSimpArgs false
set_option linter.unusedVariables false
set_option maxRecDepth 100000
set_option maxHeartbeats 8000000

theorem tot_from : ∀ (ss : List Stp) (n : Nat), ss.foldl (fun n s => n + s.items.length) n = n + tot ss
  | [], n => rfl
  | s :: ss, n => by
    show ss.foldl _ (n + s.items.length) = n + ss.foldl _ (0 + s.items.length)
    rw [tot_from ss, tot_from ss]; omega
theorem tot_append (a b : List Stp) : tot (a ++ b) = tot a + tot b := by
  show (a ++ b).foldl _ 0 = _
  rw [List.foldl_append, tot_from]; rfl
theorem tot_take (ss : List Stp) (j : Nat) : tot (ss.take j) ≤ tot ss := by
  have := tot_append (ss.take j) (ss.drop j)
  rw [List.take_append_drop] at this; omega
theorem xstep_num (s : PSt) (st : Stp) : (xstep s st).1.num ≤ s.num + st.items.length := by
  unfold xstep
  split
  · exact PSt.insAll_num _ _
  · split
    · show s.num ≤ _; omega
    · split
      · show s.num ≤ _; omega
      · split
        · show s.num ≤ _; omega
        · split <;> (show s.num ≤ _; omega)
theorem fndo_eq (s : PSt) (o : Option Nat) : fndo s o = ⟨it1 (o.getD 0) (o.bind s.m), 0, false⟩ := by cases o <;> rfl
theorem bind_x (s : PSt) (o : Option Nat) : o.bind s.x.m = (o.bind s.m).map fun v => EI (o.getD 0, v) := by cases o <;> rfl
def Op1 (s : Stp) : Prop := s.op = 1 ∨ s.op = 3 ∨ s.op = 5 ∨ s.op = 6 ∨ s.op = 7
theorem F9_spec {k : Value → W} {w : World} {B c : Nat} {p : Option Addr} {ss : List Stp} (hB : Bits B) (Ta : Tabs w) (hS : Sl StK w p ss) (hops : ∀ s ∈ ss, Op1 s ∧ ∀ x ∈ s.items, x.1 < 2 ^ B) (htot : tot ss < 4294967296) (hl : ss.length < 4000000000)
    (hk : ∀ op oc w', SlO AnK w' op ss.length oc (xrun PSt.new ss) → (∀ b, bl op b → w.heap.size ≤ b) → Fr (fun _ => False) w w' → k (.slice op ss.length oc) w') : F9 k (B : Nat) p ss.length c w := by
  have h2 := Ta.sz
  unfold F9
  refine F23_call (F23_spec hB (back_any ?_))
  refine F22_call (F22_XT hB Ta fun a S0 w0 X0 hS0 f0 => back_p ?_)
  refine F9_L1_rule (fun t op ol oc sp sl sc x i w' => t = some ⟨a, 0, none⟩ ∧ sp = p ∧ sl = ss.length ∧ sc = c ∧ x = (ss.length : Nat) ∧ ∃ (j : Nat) (S : Nat → Prop), i = j ∧ ol = j ∧ j ≤ ss.length ∧ XT w' a B S (xend PSt.new (ss.take j)).x ∧ (∀ b, S b → w.heap.size ≤ b) ∧ SlO AnK w' op ol oc (xrun PSt.new (ss.take j)) ∧ (∀ b, bl op b → w.heap.size ≤ b) ∧ (xend PSt.new (ss.take j)).num ≤ tot (ss.take j) ∧ Fr (fun _ => False) w w')
    (fun _ _ _ _ _ _ _ x i _ => (x - i).toNat) ?_ ⟨rfl, rfl, rfl, rfl, rfl, 0, S0, rfl, rfl, Nat.zero_le _, X0, hS0, SlO.nil _ _, (fun b ⟨_, h, _⟩ => by cases h), Nat.le_refl _, f0⟩
  rintro t op ol oc sp sl sc x i w1 ⟨rfl, e1, rfl, e2, rfl, j, S, rfl, rfl, hj, X, hSw, hO, hopw, hnum, f1⟩
  obtain rfl := e1.symm; obtain rfl := e2.symm
  unfold F9_L1
  by_cases hlt : ol < ss.length
  rotate_left
  · have : ol = ss.length := by omega
    subst this
    rw [decide_eq_false (by omega)]
    simp only [BIf_false]
    rw [List.take_length] at hO
    exact hk op oc w1 hO hopw f1
  rw [decide_eq_true (by omega)]
  have hst : ss[ol]? = some ss[ol] := List.getElem?_eq_getElem hlt
  obtain ⟨hop, hkeys⟩ := hops ss[ol] (List.getElem_mem hlt)
  obtain ⟨q, o, rfl, pi, ci, pk, ck, h0, h1, h2', hI, hK⟩ := (hS.fr0 f1).get hst
  have htk := take_snoc hst
  have htt := tot_take ss (ol + 1)
  rw [htk, tot_snoc] at htt
  generalize hs : ss[ol] = st at *
  generalize hps : xend PSt.new (ss.take ol) = s at *
  simp only [BIf_true, NN_mk, Int.toNat_natCast, add_mk]
  refine ⟨by omega, LoadT_int.2 ⟨_, h0, LoadT_slice.2 ⟨_, _, _, h1, LoadT_slice.2 ⟨_, _, _, h2', ?_⟩⟩⟩⟩
  refine new_intro fun n15 w2 e2 b2 f2 z2 => ?_
  refine store_intro (i := 0) b2 (by simp) rfl fun w3 b3 f3 z3 => ?_
  refine store_intro (i := 1) b3 (by simp) rfl fun w4 b4 f4 z4 => ?_
  refine store_intro (i := 2) b4 (by simp) rfl fun w5 b5 f5 z5 => ?_
  refine new_intro fun n16 w6 e6 b6 f6 z6 => ?_
  have f25 : Fr (fun b => b = n15) w2 w5 := (f3.trans f4 fun b h => .inl h).trans f5 fun b h => .inl h
  have f15 : Fr (fun _ => False) w1 w5 := f2.trans f25 fun b h => .inr (by have : b = n15 := h; omega)
  have f16 : Fr (fun _ => False) w1 w6 := f15.trans f6 fun _ h => h.elim
  have b56 := b5.fr f6 id
  have hz15 := f15.size
  have hn16 : w1.heap.size ≤ n16 := by omega
  refine load_int (i := 0) b56 rfl ?_
  have hopen : ol < 4000000000 := by omega
  have hz1 := f1.size
  have hop2 : ∀ b, bl op b → 2 ≤ b := fun b hb => by have := hopw b hb; omega
  -- what stays the same behind a step
  have step : ∀ {s' : PSt} {an : An} {S' : Nat → Prop} {op' : Option Addr} {oc' : Nat} {w9 : World}, xstep s st = (s', an) → XT w9 a B S' s'.x → (∀ b, S' b → w.heap.size ≤ b) → SlO AnK w9 op' (ol + 1) oc' (xrun PSt.new (ss.take ol) ++ [an]) → (∀ b, bl op' b → w.heap.size ≤ b) → Fr (fun _ => False) w w9 →
      (fun (t : Option Addr) op (ol : Nat) oc sp sl sc (x i : Int) w' => t = some ⟨a, 0, none⟩ ∧ sp = (some ⟨q, o, none⟩ : Option Addr) ∧ sl = ss.length ∧ sc = c ∧ x = (ss.length : Nat) ∧ ∃ (j : Nat) (S : Nat → Prop), i = j ∧ ol = j ∧ j ≤ ss.length ∧ XT w' a B S (xend PSt.new (ss.take j)).x ∧ (∀ b, S b → w.heap.size ≤ b) ∧ SlO AnK w' op ol oc (xrun PSt.new (ss.take j)) ∧ (∀ b, bl op b → w.heap.size ≤ b) ∧ (xend PSt.new (ss.take j)).num ≤ tot (ss.take j) ∧ Fr (fun _ => False) w w')
        (some ⟨a, 0, none⟩) op' (ol + 1) oc' (some ⟨q, o, none⟩) ss.length c ((ss.length : Nat) : Int) (addI .i64 ((ol : Nat) : Int) 1) w9 ∧ (((ss.length : Nat) : Int) - addI .i64 ((ol : Nat) : Int) 1).toNat < (((ss.length : Nat) : Int) - ((ol : Nat) : Int)).toNat := fun {s' an S' op' oc' w9} hx X9 hS9 hO9 hop9 f9 => by
    rw [add_one (by omega)]
    refine ⟨⟨rfl, rfl, rfl, rfl, rfl, ol + 1, S', rfl, rfl, hlt, ?_, hS9, ?_, hop9, ?_, f9⟩, by omega⟩
    · rw [htk, xend_snoc, hps, hx]; exact X9
    · rw [htk, xrun_snoc, hps, hx]; exact hO9
    · have := xstep_num s st
      rw [htk, xend_snoc, tot_snoc, hps]; omega
  have fin : ∀ {an : An} {pi : Option Addr} {ci : Nat} w8 (again), xstep s st = (s, an) → Blk w8 n16 39 [.slice pi an.items.length ci, .int .u64 (an.n : Nat), .bool an.yes] → Sl ItK w8 pi an.items → Fr (fun _ => False) w1 w8 →
      (∀ {S' : Nat → Prop} {op' : Option Addr} {oc' : Nat} {w9 : World}, XT w9 a B S' s.x → (∀ b, S' b → w.heap.size ≤ b) → SlO AnK w9 op' (ol + 1) oc' (xrun PSt.new (ss.take ol) ++ [an]) → (∀ b, bl op' b → w.heap.size ≤ b) → Fr (fun _ => False) w w9 → again (some ⟨a, 0, none⟩) op' (ol + 1) oc' (some ⟨q, o, none⟩) ss.length c ((ss.length : Nat) : Int) (addI .i64 ((ol : Nat) : Int) 1) w9) →
      F9_J1 k again (some ⟨a, 0, none⟩) op ol oc ⟨n16, 0, none⟩ (some ⟨q, o, none⟩) ss.length c ((ss.length : Nat) : Int) ((ol : Nat) : Int) w8 := fun {an pi ci} w8 again hx b8 hI8 f8 hag => by
    have hO8 := hO.fr0 f8
    have X8 := X.fr0 f8
    refine F9_J1_spec hO8 b8 rfl rfl rfl hI8 hopen fun op' oc' w9 hO9 f9 hop9 => ?_
    have hz8 := f8.size
    refine hag (X8.fr f9 (fun b hS hb => ?_) (fun h => by have := hop2 0 h; omega) (fun h => by have := hop2 1 h; omega) fun q v hv => PSt.kp hv _) hSw hO9 (fun b hb => ?_) ((f1.trans f8 fun _ h => h.elim).trans f9 fun b hb => .inr (hopw b hb))
    · obtain ⟨us, hu⟩ := hO8.blk hb
      rcases X8.kinds hS hu with h | h | h <;> exact absurd h (by decide)
    · rcases hop9 b hb with h | h
      · exact hopw b h
      · omega
  -- an entry found, or none
  have one : ∀ {n : Nat} {ov : Option Int} w7 (again), xstep s st = (s, ⟨it1 n ov, 0, false⟩) → Fr (fun _ => False) w6 w7 → (∀ {S' : Nat → Prop} {op' : Option Addr} {oc' : Nat} {w9 : World}, XT w9 a B S' s.x → (∀ b, S' b → w.heap.size ≤ b) → SlO AnK w9 op' (ol + 1) oc' (xrun PSt.new (ss.take ol) ++ [⟨it1 n ov, 0, false⟩]) → (∀ b, bl op' b → w.heap.size ≤ b) → Fr (fun _ => False) w w9 → again (some ⟨a, 0, none⟩) op' (ol + 1) oc' (some ⟨q, o, none⟩) ss.length c ((ss.length : Nat) : Int) (addI .i64 ((ol : Nat) : Int) 1) w9) →
      CallT Go.Proofs.Tryd.prog 26 [(ov.map fun v => EI (n, v)).getD .nilIface] (.s (.agg [.slice, (.int .u64), .bool])) (fun sp sl sc x b =>
        Store1 ⟨n16, 0, none⟩ (.slice sp sl sc) <| Store1 ⟨n16, 1, none⟩ (.int .u64 x) <| Store1 ⟨n16, 2, none⟩ (.bool b) <|
        F9_J1 k again (some ⟨a, 0, none⟩) op ol oc ⟨n16, 0, none⟩ (some ⟨q, o, none⟩) ss.length c ((ss.length : Nat) : Int) ((ol : Nat) : Int)) w7 := fun {n ov} w7 again hx f7 hag => by
    refine F26_call (F26_spec (q := n) (o := ov) fun pi' ci' w8 hI8 f8 => back_an ?_)
    have b8 := (b6.fr f7 id).fr f8 id
    refine store_intro (i := 0) b8 (by simp) rfl fun w9 b9 f9 z9 => ?_
    refine store_intro (i := 1) b9 (by simp) rfl fun wa ba fa za => ?_
    refine store_intro (i := 2) ba (by simp) rfl fun wb bb fb zb => ?_
    have f8b : Fr (fun b => b = n16) w8 wb := (f9.trans fa fun b h => .inl h).trans fb fun b h => .inl h
    have f1b : Fr (fun _ => False) w1 wb := ((f16.trans f7 fun _ h => h.elim).trans f8 fun _ h => h.elim).trans f8b fun b h => .inr (by have : b = n16 := h; omega)
    exact fin (an := ⟨it1 n ov, 0, false⟩) wb again hx bb (hI8.fr f8b (Tys.one b8) (by decide)) f1b hag
  have K6 := hK.fr0 f16
  have I6 := hI.fr0 f16
  have X6 := X.fr0 f16
  have b66 := b6
  rcases hop with ho | ho | ho | ho | ho
  · rw [show (st.op == 1) = true by rw [ho]; rfl]
    simp only [BIf_true]
    refine load_slice (i := 1) b56 rfl ?_
    have hx : xstep s st = (s.insAll st.items, ⟨[], 0, false⟩) := by unfold xstep; rw [if_pos ho]
    refine F9_L2_spec X6 (hO.fr0 f16) b6 I6 hkeys (by omega) hopen hop2 fun S' op' oc' w9 X9 hS9 hO9 f9 hop9 => ?_
    have hz16 := f16.size
    refine step hx X9 (fun b hb => ?_) hO9 (fun b hb => ?_) ((f1.trans f16 fun _ h => h.elim).trans f9 fun b hb => .inr ?_)
    · rcases hS9 b hb with h | h
      · exact hSw b h
      · omega
    · rcases hop9 b hb with h | h
      · exact hopw b h
      · omega
    · rcases hb with h | h
      · exact hSw b h
      · exact hopw b h
  · rw [show (st.op == 1) = false by rw [ho]; rfl, show (st.op == 2) = false by rw [ho]; rfl, show (st.op == 3) = true by rw [ho]; rfl]
    simp only [BIf_true, BIf_false]
    refine load_slice (i := 2) b56 rfl ?_
    refine F28_call (F28_spec K6 (back_int ?_))
    refine F27_call (X6.get fun w7 f7 => back_any ?_)
    have hx : xstep s st = (s, ⟨it1 (st.keys.headD 0) (s.m (st.keys.headD 0)), 0, false⟩) := by unfold xstep; rw [if_neg (by omega), if_pos ho]; rfl
    exact one w7 _ hx f7 (step hx)
  · rw [show (st.op == 1) = false by rw [ho]; rfl, show (st.op == 2) = false by rw [ho]; rfl, show (st.op == 3) = false by rw [ho]; rfl, show (st.op == 4) = false by rw [ho]; rfl, show (st.op == 5) = true by rw [ho]; rfl]
    simp only [BIf_true, BIf_false]
    have hx : xstep s st = (s, ⟨[], s.num, false⟩) := by unfold xstep; rw [if_neg (by omega), if_neg (by omega), if_pos ho]
    refine F30_call (X6.len (back_int ?_))
    refine store_intro (i := 1) b6 (by simp) rfl fun w7 b7 f7 z7 => ?_
    exact fin (an := ⟨[], s.num, false⟩) w7 _ hx b7 (Sl.nil _ _ _) (f16.trans f7 fun b h => .inr (by have : b = n16 := h; omega)) (step hx)
  · rw [show (st.op == 1) = false by rw [ho]; rfl, show (st.op == 2) = false by rw [ho]; rfl, show (st.op == 3) = false by rw [ho]; rfl, show (st.op == 4) = false by rw [ho]; rfl, show (st.op == 5) = false by rw [ho]; rfl, show (st.op == 6) = true by rw [ho]; rfl]
    simp only [BIf_true, BIf_false]
    have hx : xstep s st = (s, ⟨it1 (s.mn.getD 0) (s.mn.bind s.m), 0, false⟩) := by unfold xstep; rw [if_neg (by omega), if_neg (by omega), if_neg (by omega), if_pos ho, fndo_eq]
    refine F31_call (X6.min (back_any ?_))
    rw [show s.x.mn.bind s.x.m = _ from bind_x s s.mn]
    exact one w6 _ hx (Fr.refl _ _) (step hx)
  · rw [show (st.op == 1) = false by rw [ho]; rfl, show (st.op == 2) = false by rw [ho]; rfl, show (st.op == 3) = false by rw [ho]; rfl, show (st.op == 4) = false by rw [ho]; rfl, show (st.op == 5) = false by rw [ho]; rfl, show (st.op == 6) = false by rw [ho]; rfl, show (st.op == 7) = true by rw [ho]; rfl]
    simp only [BIf_true, BIf_false]
    have hx : xstep s st = (s, ⟨it1 (s.mx.getD 0) (s.mx.bind s.m), 0, false⟩) := by unfold xstep; rw [if_neg (by omega), if_neg (by omega), if_neg (by omega), if_neg (by omega), if_pos ho, fndo_eq]
    refine F32_call (X6.max (back_any ?_))
    rw [show s.x.mx.bind s.x.m = _ from bind_x s s.mx]
    exact one w6 _ hx (Fr.refl _ _) (step hx)
end Go.Proofs.YtaacaokocamlcaaDoor.E
