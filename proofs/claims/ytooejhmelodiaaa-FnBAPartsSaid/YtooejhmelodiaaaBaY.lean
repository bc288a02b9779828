/-
  Bit arrays: a run; its answers.
-/
import Derived.Test.YtooejhmelodiaaaBaX
import Derived.Test.YtooejhmelodiaaaFnsB
namespace Go.Proofs.Ytooejhmelodiaaa.E
open Go
set_option linter.unusedSimpArgs false
set_option linter.unusedVariables false
set_option maxRecDepth 100000
set_option maxHeartbeats 8000000

theorem sl_dp {α : Type} {K : Rk α} {w w' : World} {S : Nat → Prop} {p : Option Addr} {xs : List α} {dp : List TypeId} (h : Sl K w p xs) (f : Fr S w w') (hd : ∀ b u us, S b → Blk w b u us → u ∉ dp) (ht : K.t ∈ dp) (hs : ∀ u, u ∈ K.dp → u ∈ dp) : Sl K w' p xs := by
  rcases h with h | ⟨q, o, us, rfl, hB, hR⟩
  · exact .inl h
  · exact .inr ⟨q, o, us, rfl, hB.fr f fun hS => hd _ _ _ hS hB ht, hR.fr f fun b u us hS hb e => hd _ _ _ hS hb (hs u e)⟩
def StK : Rk BS := ⟨31, 6, fun _ g s => g 0 = some (.int .i64 s.op) ∧ g 1 = some (.int .i64 ((s.on : Nat) : Int)) ∧ g 2 = some (.int .i64 ((s.by_ : Nat) : Int)) ∧ g 3 = some (.int .u64 ((s.k : Nat) : Int)) ∧ g 4 = some (.int .i64 0) ∧ g 5 = some (.bool false), [],
  fun h ⟨h0, h1, h2, h3, h4, h5⟩ => ⟨by rw [← h 0 (by decide)]; exact h0, by rw [← h 1 (by decide)]; exact h1, by rw [← h 2 (by decide)]; exact h2, by rw [← h 3 (by decide)]; exact h3, by rw [← h 4 (by decide)]; exact h4, by rw [← h 5 (by decide)]; exact h5⟩, fun _ _ h => h⟩
def AnK : Rk BA := ⟨35, 4, fun w g s => ∃ p c, g 0 = some (.bool s.yes) ∧ g 1 = some (.int .u64 ((s.n : Nat) : Int)) ∧ g 2 = some (.slice p s.nums.length c) ∧ g 3 = some (.bool false) ∧ Sl NuK w p s.nums, [24],
  fun h ⟨p, c, h0, h1, h2, h3, h4⟩ => ⟨p, c, by rw [← h 0 (by decide)]; exact h0, by rw [← h 1 (by decide)]; exact h1, by rw [← h 2 (by decide)]; exact h2, by rw [← h 3 (by decide)]; exact h3, h4⟩,
  fun f hd ⟨p, c, h0, h1, h2, h3, h4⟩ => ⟨p, c, h0, h1, h2, h3, sl_dp h4 f hd (by decide) (fun u hu => by cases hu)⟩⟩
/-- Answers without numbers stay as they are, whatever else turns. -/
theorem ans_keep {w w' : World} {S : Nat → Prop} {p : Option Addr} {l c : Nat} {xs : List BA} (h : SlO AnK w p l c xs) (h0 : ∀ s ∈ xs, s.nums = []) (f : Fr S w w') (hS : ∀ b, bl p b → ¬ S b) : SlO AnK w' p l c xs := by
  obtain ⟨vs, h1, h2, h3⟩ := h
  refine ⟨vs, h1.fr f hS, h2, fun i x hx => ?_⟩
  obtain ⟨q, d, a0, a1, a2, a3, a4⟩ := h3 i x hx
  refine ⟨q, d, a0, a1, a2, a3, ?_⟩
  rw [h0 x (List.mem_of_getElem? hx)]
  exact Sl.nil _ _ _
def runP (Ps : List Sp) (ss : List BS) : List Sp := ss.foldl stepP Ps
def runA (Ps : List Sp) : List BS → List BA
  | [] => []
  | s :: ss => stepB Ps s :: runA (stepP Ps s) ss
def OkR : Bool → List Sp → List BS → Prop
  | _, _, [] => True
  | c, Ps, s :: ss => ((∀ P ∈ Ps, Good P ∧ P.length < 1000) ∧ Ps.length < 1000 ∧ OkS c Ps s) ∧ OkR (c && decide (s.op ≠ 14)) (stepP Ps s) ss
theorem runP_snoc (Ps : List Sp) (ss : List BS) (s : BS) : runP Ps (ss ++ [s]) = stepP (runP Ps ss) s := by unfold runP; rw [List.foldl_append]; rfl
theorem runA_snoc : ∀ (ss : List BS) (Ps : List Sp) (s : BS), runA Ps (ss ++ [s]) = runA Ps ss ++ [stepB (runP Ps ss) s]
  | [], Ps, s => rfl
  | a :: ss, Ps, s => by show _ :: runA _ (ss ++ [s]) = _ :: _; rw [runA_snoc ss]; rfl
theorem runA_len : ∀ (ss : List BS) (Ps : List Sp), (runA Ps ss).length = ss.length
  | [], _ => rfl
  | a :: ss, Ps => by show (runA _ ss).length + 1 = _; rw [runA_len ss]; rfl
def z35 : Value := .agg #[.bool false, .int .u64 0, .slice none 0 0, .bool false]
theorem und32 : Try.prog.underlying 32 = some (.slice 35) := by kernel_rfl
theorem inf35 : ∃ i, Try.prog.info? 35 = some i ∧ i.zero = some z35 ∧ i.size = 4 ∧ i.bytes ≤ 4096 := ⟨_, rfl, by kernel_rfl, by kernel_rfl, Nat.le_of_ble_eq_true (by kernel_rfl)⟩
theorem fill35 (y : Bool) (n : Int) (p : Option Addr) (l c : Nat) (f : Bool) : ∀ i : TypeInfo, i.size = 4 → Instr.fill (fun j => some (j * i.size, i.size)) ((Array.range (1 * i.size)).map (z35.cells[· % z35.cells.size]!)) [(0, .agg #[.bool y, .int .u64 n, .slice p l c, .bool f])] = some [.bool y, .int .u64 n, .slice p l c, .bool f].toArray := by
  intro i h; rw [h]; kernel_rfl
section
variable {k : Value → W} {w : World}
theorem back_an {f : Bool → Int → Option Addr → Nat → Nat → Bool → W} {y b : Bool} {n : Int} {p : Option Addr} {l c : Nat} (h : f y n p l c b w) : Back (.s (.agg [.bool, (.int .u64), .slice, .bool])) f (.returned (.agg #[.bool y, .int .u64 n, .slice p l c, .bool b])) w := ⟨(y, n, (p, l, c), b, ()), rfl, h⟩
/-- BARun. -/
theorem F9_spec {ss : List BS} {sp : Option Addr} {sc : Nat} (hS : Sl StK w sp ss) (hok : OkR true [] ss) (hlen : ss.length < 100000) (hk : ∀ w' p c, Sl AnK w' p (runA [] ss) → Fr (fun _ => False) w w' → k (.slice p ss.length c) w') : F9 k sp ss.length sc w := by
  unfold F9
  refine new_intro fun ab w0 e0 b0 f0 z0 => ?_
  have A0 : AR w0 ab [] (fun b => b = ab ∨ bl none b ∨ ∃ i, i < ([] : List Sp).length ∧ (fun _ _ => False : Nat → Nat → Prop) i b) := ⟨none, 0, [], fun _ _ => False, ⟨b0, Own.nil _ _, fun i P h => by simp at h, fun i j h => by simp at h⟩, fun _ => Iff.rfl⟩
  obtain ⟨i35, t1, t2, t3, t4⟩ := inf35
  refine F9_L1_rule (I := fun a op ol oc sp' sl' sc' m j w' => a = ⟨ab, 0, none⟩ ∧ sp' = sp ∧ sl' = ss.length ∧ sc' = sc ∧ m = ((ss.length : Nat) : Int) ∧ ∃ (t : Nat) (G : Nat → Prop) (c : Bool), j = ((t : Nat) : Int) ∧ t ≤ ss.length ∧ AR w' ab (runP [] (ss.take t)) G ∧ (∀ b, G b → w.heap.size ≤ b) ∧ OkR c (runP [] (ss.take t)) (ss.drop t) ∧ (c = true → ∀ s ∈ runA [] (ss.take t), s.nums = []) ∧
      SlO AnK w' op ol oc (runA [] (ss.take t)) ∧ (∀ b, bl op b → w.heap.size ≤ b) ∧ Fr (fun _ => False) w w')
    (μ := fun a op ol oc sp' sl' sc' m j w' => ss.length - j.toNat) ?_ ⟨rfl, rfl, rfl, rfl, rfl, 0, _, true, rfl, Nat.zero_le _, A0, fun b hb => ?_, hok, fun _ s hs => (by cases hs), SlO.nil _ _, (fun b ⟨_, h, _⟩ => by cases h), f0⟩
  rotate_left
  · rcases hb with e | ⟨_, h, _⟩ | ⟨i, h, _⟩
    · omega
    · cases h
    · simp at h
  rintro _ op ol oc sp' sl' sc' m j w1 ⟨rfl, e1, e2, e3, rfl, t, G, c, rfl, ht, hA, hG, hR, hcl, O1, hop, f1⟩
  obtain rfl := e1.symm
  obtain rfl := e3.symm
  have hol := O1.len
  rw [runA_len, List.length_take] at hol
  unfold F9_L1
  rw [e2]
  by_cases hlt : t < ss.length
  · rw [decide_eq_true (show ((t : Nat) : Int) < ((ss.length : Nat) : Int) by omega), BIf_true]
    have hx : ss[t]? = some ss[t] := List.getElem?_eq_getElem hlt
    have hdrop : ss.drop t = ss[t] :: ss.drop (t + 1) := List.drop_eq_getElem_cons hlt
    generalize ss[t] = s at hx hdrop
    rw [hdrop] at hR
    obtain ⟨⟨hg, hl, hs⟩, hR⟩ := hR
    obtain ⟨q, o, rfl, c0, c1, c2, c3, c4, c5⟩ := (hS.fr0 f1).get hx
    simp only [NN_mk, Int.toNat_natCast, add_mk]
    refine ⟨by omega, LoadT_int.2 ⟨_, c0, LoadT_int.2 ⟨_, c1, LoadT_int.2 ⟨_, c2, LoadT_int.2 ⟨_, c3, LoadT_int.2 ⟨_, c4, LoadT_bool.2 ⟨_, c5, ?_⟩⟩⟩⟩⟩⟩⟩
    refine new_intro fun n16 w2 e2' b2 f2 z2 => ?_
    refine store_intro (i := 0) b2 (by simp) rfl fun w3 b3 f3 z3 => store_intro (i := 1) b3 (by simp) rfl fun w4 b4 f4 z4 => store_intro (i := 2) b4 (by simp) rfl fun w5 b5 f5 z5 => store_intro (i := 3) b5 (by simp) rfl fun w6 b6 f6 z6 => store_intro (i := 4) b6 (by simp) rfl fun w7 b7 f7 z7 => store_intro (i := 5) b7 (by simp) rfl fun w8 b8 f8 z8 => ?_
    have hb8 : Blk w8 n16 31 [.int .i64 s.op, .int .i64 ((s.on : Nat) : Int), .int .i64 ((s.by_ : Nat) : Int), .int .u64 ((s.k : Nat) : Int), .int .i64 0, .bool false] := b8
    have f18 : Fr (fun _ => False) w1 w8 := by
      have : Fr (fun b => b = n16) w1 w8 := (((((f2.mono (S' := fun b => b = n16) fun _ h => h.elim).trans f3 fun _ h => .inl h).trans f4 fun _ h => .inl h).trans f5 fun _ h => .inl h).trans f6 fun _ h => .inl h).trans f7 (fun _ h => .inl h) |>.trans f8 fun _ h => .inl h
      exact this.mono fun b h => .inr (by have h : b = n16 := h; omega)
    refine load_int (i := 0) hb8 rfl (load_int (i := 1) hb8 rfl (load_int (i := 2) hb8 rfl (load_int (i := 3) hb8 rfl (load_int (i := 4) hb8 rfl (load_bool (i := 5) hb8 rfl ?_)))))
    refine F12_calls ?_
    have b9 : Blk ((w8.alloc (.cells #[.int .i64 s.op, .int .i64 ((s.on : Nat) : Int), .int .i64 ((s.by_ : Nat) : Int), .int .u64 ((s.k : Nat) : Int), .int .i64 0, .bool false] 31)).alloc (.cells #[.bool false, .int .u64 0, .slice none 0 0, .bool false] 35)) w8.heap.size 31 [.int .i64 s.op, .int .i64 ((s.on : Nat) : Int), .int .i64 ((s.by_ : Nat) : Int), .int .u64 ((s.k : Nat) : Int), .int .i64 0, .bool false] := (Blk.new' w8 _ 31).alloc _
    have b10 : Blk ((w8.alloc (.cells #[.int .i64 s.op, .int .i64 ((s.on : Nat) : Int), .int .i64 ((s.by_ : Nat) : Int), .int .u64 ((s.k : Nat) : Int), .int .i64 0, .bool false] 31)).alloc (.cells #[.bool false, .int .u64 0, .slice none 0 0, .bool false] 35)) (w8.heap.size + 1) 35 [.bool false, .int .u64 0, .slice none 0 0, .bool false] := by
      have := Blk.new' (w8.alloc (.cells #[.int .i64 s.op, .int .i64 ((s.on : Nat) : Int), .int .i64 ((s.by_ : Nat) : Int), .int .u64 ((s.k : Nat) : Int), .int .i64 0, .bool false] 31)) [.bool false, .int .u64 0, .slice none 0 0, .bool false] 35
      have e : (w8.alloc (.cells #[.int .i64 s.op, .int .i64 ((s.on : Nat) : Int), .int .i64 ((s.by_ : Nat) : Int), .int .u64 ((s.k : Nat) : Int), .int .i64 0, .bool false] 31)).heap.size = w8.heap.size + 1 := by simp
      rw [e] at this; exact this
    have f810 : Fr (fun _ => False) w8 ((w8.alloc (.cells #[.int .i64 s.op, .int .i64 ((s.on : Nat) : Int), .int .i64 ((s.by_ : Nat) : Int), .int .u64 ((s.k : Nat) : Int), .int .i64 0, .bool false] 31)).alloc (.cells #[.bool false, .int .u64 0, .slice none 0 0, .bool false] 35)) := (Fr.alloc (fun _ => False) _ _).trans (Fr.alloc (fun _ => False) _ _) fun _ (h : False) => h.elim
    generalize ((w8.alloc (.cells #[.int .i64 s.op, .int .i64 ((s.on : Nat) : Int), .int .i64 ((s.by_ : Nat) : Int), .int .u64 ((s.k : Nat) : Int), .int .i64 0, .bool false] 31)).alloc (.cells #[.bool false, .int .u64 0, .slice none 0 0, .bool false] 35)) = w10 at b9 b10 f810
    have f110 := f18.trans f810 fun _ h => h.elim
    have hz1 := f1.size
    have hz18 := f18.size
    refine F12_spec (hA.fr0 f110) b9 b10 hs hg hl fun w11 G' p pc hA' fg fn hG' hN => back_an ?_
    have f111 : Fr G w1 w11 := (f110.mono fun _ h => h.elim).trans fg fun b hb => by
      rcases hb with h | h
      · exact .inl h
      · exact .inr (by omega)
    have f0 : Fr (fun _ => False) w w11 := f1.trans f111 fun b hb => .inr (hG b hb)
    have hnG : ∀ b, bl op b → ¬ G b := fun b hb hx => by
      obtain ⟨us, hu⟩ := O1.blk hb
      have := hA.ty b _ us hx hu
      simp [AnK] at this
    have O11 : SlO AnK w11 op ol oc (runA [] (ss.take t)) := by
      by_cases h3 : s.op = 3
      · have hc : c = true := by
          rcases hs with h | ⟨_, h, _⟩ | ⟨h, _⟩ | ⟨h, _⟩
          · omega
          · exact h
          · omega
          · omega
        exact ans_keep O1 (hcl hc) f111 hnG
      · obtain ⟨S, fS, tS, bS⟩ := fn h3
        refine O1.fr' ((f110.mono fun _ h => h.elim).trans (S := fun b => S b ∧ G b) fS fun b hb => ?_) (fun b hb hx => hnG b hb hx.2) fun b u us hb hu => ?_
        · rcases bS b hb with h | h
          · exact .inl ⟨hb, h⟩
          · exact .inr (by omega)
        · have h1 := tS b u us hb.1 (hu.fr f110 id)
          have h2 := hA.ty b u us hb.2 hu
          intro hm
          simp only [AnK, List.mem_cons, List.not_mem_nil, or_false] at h1 h2 hm
          subst hm
          simp at h1
    refine build_intro und32 t1 t2 (by omega) (by omega) (fill35 _ _ _ _ _ _ i35 t3) fun w12 f12 b12 z12 => ?_
    have hz0 := f0.size
    refine SlO.append (K := AnK) und32 t1 t2 t3 (by decide) rfl t4 (by decide) (O11.fr0 f12) b12 (ys := [stepB (runP [] (ss.take t)) s]) (Rows.one ⟨p, pc, rfl, rfl, rfl, rfl, hN.fr0 f12⟩) rfl rfl (fun u hu => ?_) (by omega) fun op' oc' w13 f13 O13 hp13 => ?_
    · simp only [List.mem_cons, List.not_mem_nil, or_false] at hu
      rcases hu with rfl | rfl | rfl | rfl <;> rfl
    rw [addI_i64 (by omega) (by omega)]
    have hG'' : ∀ b, G' b → w.heap.size ≤ b := fun b hb => by
      rcases hG' b hb with h | h
      · exact hG b h
      · have := f110.size; omega
    refine ⟨⟨by trivial, by trivial, by trivial, by trivial, by trivial, t + 1, G', c && decide (s.op ≠ 14), by omega, hlt, ?_, hG'', ?_, fun hc s' hs' => ?_, ?_, fun b hb => ?_, (f0.trans f12 fun _ h => h.elim).trans f13 fun b hb => .inr (hop b hb)⟩, ?_⟩
    · rw [take_snoc hx, runP_snoc]
      refine (hA'.fr0 f12).fr f13 fun b hb hx => ?_
      obtain ⟨us, hu⟩ := (O11.fr0 f12).blk hx
      have := (hA'.fr0 f12).ty b _ us hb hu
      simp [AnK] at this
    · rw [take_snoc hx, runP_snoc]; exact hR
    · rw [Bool.and_eq_true] at hc
      rw [take_snoc hx, runA_snoc] at hs'
      rcases List.mem_append.1 hs' with h | h
      · exact hcl hc.1 s' h
      · rw [List.mem_singleton] at h
        subst h
        have h14 := of_decide_eq_true hc.2
        unfold stepB
        by_cases g3 : s.op = 3
        · rw [if_pos g3]
        · rw [if_neg g3]
          by_cases g10 : s.op = 10
          · rw [if_pos g10]
          · rw [if_neg g10, if_neg h14]
    · rw [take_snoc hx, runA_snoc]; exact O13
    · rcases hp13 b hb with h | h
      · exact hop b h
      · omega
    · show ss.length - (((t : Nat) : Int) + 1).toNat < ss.length - ((t : Nat) : Int).toNat
      omega
  · rw [decide_eq_false (show ¬ ((t : Nat) : Int) < ((ss.length : Nat) : Int) by omega), BIf_false]
    have : t = ss.length := by omega
    subst this
    rw [List.take_length] at O1
    rw [hol, Nat.min_self]
    exact hk w1 op oc O1.sl f1
/-- baAnswers. -/
theorem F5_spec {ss : List BS} {sp : Option Addr} {sc : Nat} (hS : Sl StK w sp ss) (hok : OkR true [] ss) (hlen : ss.length < 100000) (hk : ∀ w' p c, Sl AnK w' p (runA [] ss) → Fr (fun _ => False) w w' → k (.slice p ss.length c) w') : F5 k sp ss.length sc w := by
  unfold F5
  refine F9_call (F9_spec hS hok hlen fun w1 p c hA f1 => back_slice ?_)
  rw [show (((ss.length : Nat) : Int) != ((ss.length : Nat) : Int)) = false by simp, BIf_false]
  refine F5_L1_rule (I := fun p' l c' i w' => p' = p ∧ l = ss.length ∧ c' = c ∧ w' = w1 ∧ ∃ t : Nat, i = ((t : Nat) : Int) ∧ t ≤ ss.length) (μ := fun p' l c' i w' => ss.length - i.toNat) ?_ ⟨rfl, rfl, rfl, rfl, 0, rfl, Nat.zero_le _⟩
  rintro p' l c' i w2 ⟨e0, e1, e2, rfl, t, rfl, ht⟩
  obtain rfl := e0.symm
  obtain rfl := e2.symm
  unfold F5_L1
  rw [e1]
  by_cases hlt : t < ss.length
  · rw [decide_eq_true (show ((t : Nat) : Int) < ((ss.length : Nat) : Int) by omega), BIf_true]
    have hx : (runA [] ss)[t]? = some ((runA [] ss)[t]'(by rw [runA_len]; exact hlt)) := List.getElem?_eq_getElem _
    obtain ⟨q, o, rfl, _, _, _, _, _, c3, _⟩ := hA.get hx
    simp only [NN_mk, Int.toNat_natCast, add_mk]
    refine ⟨by omega, LoadT_bool.2 ⟨false, c3, ?_⟩⟩
    rw [BIf_false, addI_i64 (by omega) (by omega)]
    refine ⟨⟨by trivial, by trivial, by trivial, by trivial, t + 1, by omega, hlt⟩, ?_⟩
    show ss.length - (((t : Nat) : Int) + 1).toNat < ss.length - ((t : Nat) : Int).toNat
    omega
  · rw [decide_eq_false (show ¬ ((t : Nat) : Int) < ((ss.length : Nat) : Int) by omega), BIf_false]
    exact hk w2 p c hA f1
/-- BASame, of the same lists. -/
theorem F6_spec {X : List Nat} {p q : Option Addr} {c d : Nat} (hA : Sl NuK w p X) (hB : Sl NuK w q X) (hl : X.length < 100000000) (hk : ∀ w', Fr (fun _ => False) w w' → k (.bool true) w') : F6 k p X.length c q X.length d w := by
  unfold F6
  rw [show (((X.length : Nat) : Int) != ((X.length : Nat) : Int)) = false by simp, BIf_false]
  refine F6_L1_rule (I := fun p' l c' q' m d' i w' => p' = p ∧ l = X.length ∧ q' = q ∧ m = X.length ∧ ∃ t : Nat, i = ((t : Nat) : Int) ∧ t ≤ X.length ∧ Fr (fun _ => False) w w') (μ := fun p' l c' q' m d' i w' => X.length - i.toNat) ?_ ⟨rfl, rfl, rfl, rfl, 0, rfl, Nat.zero_le _, Fr.refl _ _⟩
  rintro _ l c' _ m d' i w1 ⟨rfl, e1, rfl, e2, t, rfl, ht, f⟩
  unfold F6_L1
  rw [e1, e2]
  by_cases hlt : t < X.length
  · rw [decide_eq_true (show ((t : Nat) : Int) < ((X.length : Nat) : Int) by omega), BIf_true]
    refine drw_intro fun w2 f2 z2 => ?_
    have f02 := f.trans f2 fun _ h => h.elim
    have hx : X[t]? = some X[t] := List.getElem?_eq_getElem hlt
    generalize X[t] = x at hx
    obtain ⟨q1, o1, rfl, u1⟩ := (hA.fr0 f02).get hx
    obtain ⟨q2, o2, rfl, u2⟩ := (hB.fr0 f02).get hx
    have u1 : w2.cell? ⟨q1, o1 + t, none⟩ = some (uv x) := by
      have : w2.cell? ⟨q1, o1 + t * 1 + 0, none⟩ = some (uv x) := u1
      rw [show o1 + t * 1 + 0 = o1 + t by omega] at this; exact this
    have u2 : w2.cell? ⟨q2, o2 + t, none⟩ = some (uv x) := by
      have : w2.cell? ⟨q2, o2 + t * 1 + 0, none⟩ = some (uv x) := u2
      rw [show o2 + t * 1 + 0 = o2 + t by omega] at this; exact this
    simp only [NN_mk, Int.toNat_natCast, add_mk]
    refine ⟨by omega, LoadT_int.2 ⟨_, u1, ⟨by omega, LoadT_int.2 ⟨_, u2, ?_⟩⟩⟩⟩
    rw [show (((x : Nat) : Int) != ((x : Nat) : Int)) = false by simp, BIf_false, addI_i64 (by omega) (by omega)]
    refine ⟨⟨by trivial, by trivial, by trivial, by trivial, t + 1, by omega, hlt, f02⟩, ?_⟩
    show X.length - (((t : Nat) : Int) + 1).toNat < X.length - ((t : Nat) : Int).toNat
    omega
  · rw [decide_eq_false (show ¬ ((t : Nat) : Int) < ((X.length : Nat) : Int) by omega), BIf_false]
    exact hk w1 f
end
end Go.Proofs.Ytooejhmelodiaaa.E
