/-
  Caches: an example; what is asked of the arguments.
-/
import Derived.Test.YtmaejciimpnogaaDoorCaU
namespace Go.Proofs.YtmaejciimpnogaaDoor.E
open Go
set_option linter.unusedSimpArgs false
set_option linter.unusedVariables false
set_option maxRecDepth 100000
set_option maxHeartbeats 16000000

def exS : List CS := [⟨1, 1, 2, 7, []⟩, ⟨1, 2, 2, 8, []⟩, ⟨2, 0, 0, 0, [1, 2]⟩]
theorem exA : ansC false 3 [] exS = [⟨[], [], 2⟩, ⟨[], [], 2⟩, ⟨[(0, 0), (2, 8)], [false, true], 2⟩] := by kernel_rfl
theorem und25 : Tryd.prog.underlying 25 = some (.slice 3) := by kernel_rfl
theorem inf3 : ∃ i, Tryd.prog.info? 3 = some i ∧ i.zero = some (.int .i64 0) ∧ i.size = 1 ∧ i.bytes ≤ 4096 := ⟨_, rfl, by kernel_rfl, by kernel_rfl, Nat.le_of_ble_eq_true (by kernel_rfl)⟩
def z29 : Value := .agg #[.int .i64 0, .int .i64 0, .int .i64 0, .int .i64 0, .slice none 0 0]
theorem und22 : Tryd.prog.underlying 22 = some (.slice 29) := by kernel_rfl
theorem inf29 : ∃ i, Tryd.prog.info? 29 = some i ∧ i.zero = some z29 ∧ i.size = 5 ∧ i.bytes ≤ 4096 := ⟨_, rfl, by kernel_rfl, by kernel_rfl, Nat.le_of_ble_eq_true (by kernel_rfl)⟩
theorem fill3_2 (a b : Int) : ∀ i : TypeInfo, i.size = 1 → Instr.fill (fun j => some (j * i.size, i.size)) ((Array.range (2 * i.size)).map ((Value.int .i64 0).cells[· % (Value.int .i64 0).cells.size]!)) [(0, .int .i64 a), (1, .int .i64 b)] = some [.int .i64 a, .int .i64 b].toArray := by
  intro i h; rw [h]; kernel_rfl
theorem fill4_2 (a b : Bool) : ∀ i : TypeInfo, i.size = 1 → Instr.fill (fun j => some (j * i.size, i.size)) ((Array.range (2 * i.size)).map ((Value.bool false).cells[· % (Value.bool false).cells.size]!)) [(0, .bool a), (1, .bool b)] = some [.bool a, .bool b].toArray := by
  intro i h; rw [h]; kernel_rfl
theorem fill29_3 (p : Option Addr) (l c : Nat) : ∀ i : TypeInfo, i.size = 5 → Instr.fill (fun j => some (j * i.size, i.size)) ((Array.range (3 * i.size)).map (z29.cells[· % z29.cells.size]!)) [(0, .agg #[.int .i64 1, .int .i64 1, .int .i64 2, .int .i64 7, .slice none 0 0]), (1, .agg #[.int .i64 1, .int .i64 2, .int .i64 2, .int .i64 8, .slice none 0 0]), (2, .agg #[.int .i64 2, .int .i64 0, .int .i64 0, .int .i64 0, .slice p l c])] =
    some [.int .i64 1, .int .i64 1, .int .i64 2, .int .i64 7, .slice none 0 0, .int .i64 1, .int .i64 2, .int .i64 2, .int .i64 8, .slice none 0 0, .int .i64 2, .int .i64 0, .int .i64 0, .int .i64 0, .slice p l c].toArray := by
  intro i h; rw [h]; kernel_rfl
section
variable {w : World} {k : Value → W}
/-- dcAwake. -/
theorem F8_spec (hk : ∀ w', Fr (fun _ => False) w w' → k (.bool true) w') : F8 k w := by
  unfold F8
  obtain ⟨i3, a1, a2, a3, a4⟩ := inf3
  obtain ⟨i29, g1, g2, g3, g4⟩ := inf29
  obtain ⟨i4, c1, c2, c3, c4⟩ := inf4
  refine build_intro und25 a1 a2 (by omega) (by omega) (fill3_2 _ _ i3 a3) fun w1 f1 b1 z1 => ?_
  refine build_intro und22 g1 g2 (by omega) (by omega) (fill29_3 _ _ _ i29 g3) fun w2 f2 b2 z2 => ?_
  have b1 := b1.fr f2 id
  have hS : StA w2 (some ⟨w1.heap.size, 0, none⟩) exS := fun i s hs => by
    have hi : i < 3 := (List.getElem?_eq_some_iff.1 hs).1
    have : i = 0 ∨ i = 1 ∨ i = 2 := by omega
    rcases this with rfl | rfl | rfl
    · cases hs
      exact ⟨_, none, 0, rfl, by rw [add_mk, add_mk, b2.cell]; rfl, by rw [add_mk, add_mk, b2.cell]; rfl, by rw [add_mk, add_mk, b2.cell]; rfl, by rw [add_mk, add_mk, b2.cell]; rfl, by rw [add_mk, add_mk, b2.cell]; rfl, fun j x hx => by simp at hx⟩
    · cases hs
      exact ⟨_, none, 0, rfl, by rw [add_mk, add_mk, b2.cell]; rfl, by rw [add_mk, add_mk, b2.cell]; rfl, by rw [add_mk, add_mk, b2.cell]; rfl, by rw [add_mk, add_mk, b2.cell]; rfl, by rw [add_mk, add_mk, b2.cell]; rfl, fun j x hx => by simp at hx⟩
    · cases hs
      refine ⟨_, _, 2, rfl, by rw [add_mk, add_mk, b2.cell]; rfl, by rw [add_mk, add_mk, b2.cell]; rfl, by rw [add_mk, add_mk, b2.cell]; rfl, by rw [add_mk, add_mk, b2.cell]; rfl, by rw [add_mk, add_mk, b2.cell]; rfl, fun j x hx => ⟨_, rfl, ?_⟩⟩
      have hj : j < 2 := (List.getElem?_eq_some_iff.1 hx).1
      rw [add_mk, b1.cell]
      have : j = 0 ∨ j = 1 := by omega
      rcases this with rfl | rfl <;> (cases hx; rfl)
  have hok : ∀ s ∈ exS, OkC 3 s := fun s hs => by
    simp only [exS, List.mem_cons, List.not_mem_nil, or_false] at hs
    rcases hs with rfl | rfl | rfl
    · exact ⟨.inl ⟨rfl, by decide, by decide, by decide⟩, by decide, fun z hz => by cases hz⟩
    · exact ⟨.inl ⟨rfl, by decide, by decide, by decide⟩, by decide, fun z hz => by cases hz⟩
    · exact ⟨.inr (.inl rfl), by decide, fun z hz => by
        simp only [List.mem_cons, List.not_mem_nil, or_false] at hz
        rcases hz with rfl | rfl <;> decide⟩
  show CallT Tryd.prog 7 [.int .i64 ((3 : Nat) : Int), .int .i64 0, .slice (some ⟨w1.heap.size, 0, none⟩) exS.length 3] _ _ w2
  refine F7_call (F7_spec (.inl rfl) hS hok (by decide) (by decide) (by decide) fun w3 q d hA f3 => back_slice ?_)
  · show BIf (((exS.length : Nat) : Int) == 3) _ _ w3
    rw [show (((exS.length : Nat) : Int) == 3) = true from rfl, BIf_true]
    rw [show decide ((0 : Int) ≠ 0) = false from rfl, exA] at hA
    obtain ⟨qp, o, rfl, ip, ic, hp, hc, h0, h1, h2, hI, hH⟩ := hA.get (i := 2) rfl
    have h0 : w3.cell? ⟨qp, o + 6, none⟩ = some (.slice ip 2 ic) := h0
    have h1 : w3.cell? ⟨qp, o + 6 + 1, none⟩ = some (.slice hp 2 hc) := h1
    have h2 : w3.cell? ⟨qp, o + 6 + 2, none⟩ = some (.int .i64 2) := h2
    simp only [NN_mk, add_mk]
    refine ⟨by decide, LoadT_int.2 ⟨_, h2, ?_⟩⟩
    rw [show ((2 : Int) == 2) = true from rfl, BIf_true]
    refine ⟨by decide, LoadT_slice.2 ⟨_, _, _, h1, ?_⟩⟩
    refine build_intro und33 c1 c2 (by omega) (by omega) (fill4_2 _ _ i4 c3) fun w4 f4 b4 z4 => ?_
    have hB : Sl BK w4 (some ⟨w3.heap.size, 0, none⟩) [false, true] := Sl.of_blk (K := BK) b4 fun i x hx => by
      have hi : i < 2 := (List.getElem?_eq_some_iff.1 hx).1
      have : i = 0 ∨ i = 1 := by omega
      rcases this with rfl | rfl <;> (cases hx; rfl)
    refine F15_call (F15_spec (H := [false, true]) (hH.fr0 f4) hB (by decide) fun w5 f5 => back_bool ?_)
    rw [BIf_true]
    have f35 := f4.trans f5 fun _ h => h.elim
    have cl : ∀ {a : Addr} {v : Value}, w3.cell? a = some v → w5.cell? a = some v := fun h => by rw [f35.cell (cell_lt h) id]; exact h
    refine ⟨by decide, LoadT_slice.2 ⟨_, _, _, cl h0, ?_⟩⟩
    rw [show ((((2 : Nat) : Int)) == 2) = true from rfl, BIf_true]
    refine ⟨by decide, LoadT_slice.2 ⟨_, _, _, cl h0, ?_⟩⟩
    obtain ⟨iq, io, rfl, _, i1⟩ := (hI.fr0 f35).get (i := 1) rfl
    simp only [NN_mk, add_mk]
    refine ⟨by decide, LoadT_int.2 ⟨8, i1, ?_⟩⟩
    exact hk w5 (((f1.trans f2 fun _ h => h.elim).trans f3 fun _ h => h.elim).trans f35 fun _ h => h.elim)
/-- zzFits1. -/
theorem F5_spec {p : Option Addr} {c : Nat} {ss : List CS} (hS : StA w p ss) (hk : ∀ w' b, (b = true → ss.length ≤ 2147483647) → Fr (fun _ => False) w w' → k (.bool b) w') : F5 k p ss.length c w := by
  unfold F5
  by_cases hb : ss.length > 2147483647
  · rw [decide_eq_true (show ((ss.length : Nat) : Int) > 2147483647 by omega), BIf_true]
    exact hk w false (fun h => by cases h) (Fr.refl _ _)
  rw [decide_eq_false (show ¬ ((ss.length : Nat) : Int) > 2147483647 by omega), BIf_false]
  refine F5_L1_rule (I := fun p' l c' m i w' => p' = p ∧ l = ss.length ∧ m = ((ss.length : Nat) : Int) ∧ ∃ t : Nat, i = ((t : Nat) : Int) ∧ t ≤ ss.length ∧ Fr (fun _ => False) w w') (μ := fun p' l c' m i w' => ss.length - i.toNat) ?_ ⟨rfl, rfl, rfl, 0, rfl, Nat.zero_le _, Fr.refl _ _⟩
  rintro p' l c' _ i w1 ⟨e1, e2, rfl, t, rfl, ht, f1⟩
  obtain rfl := e1.symm
  unfold F5_L1
  rw [e2]
  by_cases hlt : t < ss.length
  · rw [decide_eq_true (show ((t : Nat) : Int) < ((ss.length : Nat) : Int) by omega), BIf_true]
    have hx : ss[t]? = some ss[t] := List.getElem?_eq_getElem hlt
    generalize ss[t] = s at hx
    obtain ⟨a, kq, kc, rfl, c0, c1, c2, c3, c4, hint⟩ := (hS.fr0 f1) t s hx
    rw [NN_mk, Req_iff, Int.toNat_natCast]
    refine ⟨by omega, LoadT_int.2 ⟨_, c0, LoadT_int.2 ⟨_, c1, LoadT_int.2 ⟨_, c2, LoadT_int.2 ⟨_, c3, LoadT_slice.2 ⟨_, _, _, c4, ?_⟩⟩⟩⟩⟩⟩
    refine new_intro fun n12 w3 e3 b3 f3 z3 => ?_
    refine store_intro (i := 0) b3 (by simp) rfl fun w4 b4 f4 z4 => store_intro (i := 1) b4 (by simp) rfl fun w5 b5 f5 z5 => store_intro (i := 2) b5 (by simp) rfl fun w6 b6 f6 z6 => store_intro (i := 3) b6 (by simp) rfl fun w7 b7 f7 z7 => store_intro (i := 4) b7 (by simp) rfl fun w8 b8 f8 z8 => ?_
    have B8 : Blk w8 n12 29 [.int .i64 s.op, .int .i64 s.key, .int .i64 s.sz, .int .i64 s.tag, .slice kq s.keys.length kc] := b8
    have f18 : Fr (fun _ => False) w1 w8 := ((((f3.mono (S' := fun b => b = n12) fun _ h => h.elim).trans f4 fun _ h => .inl h).trans f5 fun _ h => .inl h).trans f6 fun _ h => .inl h).trans f7 (fun _ h => .inl h) |>.trans f8 (fun _ h => .inl h) |>.mono fun b h => .inr (by have h : b = n12 := h; omega)
    refine load_int (i := 0) B8 rfl (load_int (i := 1) B8 rfl (load_int (i := 2) B8 rfl (load_int (i := 3) B8 rfl (load_slice (i := 4) B8 rfl ?_))))
    refine F10_call ?_
    unfold F10
    refine new_intro fun n6 w9 e9 b9 f9 z9 => load_slice (i := 4) b9 rfl ?_
    have f09 := (f1.trans f18 fun _ h => h.elim).trans f9 fun _ h => h.elim
    refine BIf_intro (fun _ => back_bool ?_) fun _ => back_bool ?_
    · rw [Bool.not_false, BIf_true]
      exact hk w9 false (fun h => by cases h) f09
    · rw [Bool.not_true, BIf_false, addI_i64 (by omega) (by omega)]
      refine ⟨⟨by trivial, by trivial, by trivial, t + 1, by omega, hlt, f09⟩, ?_⟩
      show ss.length - (((t : Nat) : Int) + 1).toNat < ss.length - ((t : Nat) : Int).toNat
      omega
  · rw [decide_eq_false (show ¬ ((t : Nat) : Int) < ((ss.length : Nat) : Int) by omega), BIf_false]
    exact hk w1 true (fun _ => by omega) f1
/-- dcFit. -/
theorem F6_spec {p : Option Addr} {c : Nat} {ss : List CS} {cap : Int} (hS : StA w p ss) (hl : ss.length ≤ 2147483647)
    (hk : ∀ w' b, (b = true → 1 ≤ cap ∧ cap ≤ 60 ∧ ss.length ≤ 30 ∧ 0 < ss.length ∧ ∀ s ∈ ss, OkC cap.toNat s) → Fr (fun _ => False) w w' → k (.bool b) w') : F6 k cap p ss.length c w := by
  unfold F6
  have no : ∀ {w' : World}, Fr (fun _ => False) w w' → k (.bool false) w' := fun f => hk _ false (fun h => by cases h) f
  -- what is known of a step that passed
  refine F6_L1_rule (I := fun cp p0 l0 c0 p' l c' m i w' => cp = cap ∧ l0 = ss.length ∧ p' = p ∧ l = ss.length ∧ m = ((ss.length : Nat) : Int) ∧ ∃ t : Nat, i = ((t : Nat) : Int) ∧ t ≤ ss.length ∧ (∀ s ∈ ss.take t, 0 ≤ cap → OkC cap.toNat s) ∧ Fr (fun _ => False) w w') (μ := fun cp p0 l0 c0 p' l c' m i w' => ss.length - i.toNat) ?_ ⟨rfl, rfl, rfl, rfl, rfl, 0, rfl, Nat.zero_le _, fun s hs => (by cases hs), Fr.refl _ _⟩
  rintro cp p0 l0 cc0 p' l c' _ i w1 ⟨rfl, e0, e1, e2, rfl, t, rfl, ht, hall, f1⟩
  obtain rfl := e1.symm
  unfold F6_L1
  rw [e0, e2]
  by_cases hlt : t < ss.length
  · rw [decide_eq_true (show ((t : Nat) : Int) < ((ss.length : Nat) : Int) by omega), BIf_true]
    have hx : ss[t]? = some ss[t] := List.getElem?_eq_getElem hlt
    generalize ss[t] = s at hx
    obtain ⟨a, kq, kc, rfl, c0, c1, c2, c3, c4, hint⟩ := (hS.fr0 f1) t s hx
    rw [NN_mk, Req_iff, Int.toNat_natCast]
    refine ⟨by omega, LoadT_int.2 ⟨_, c0, LoadT_int.2 ⟨_, c1, LoadT_int.2 ⟨_, c2, LoadT_int.2 ⟨_, c3, LoadT_slice.2 ⟨_, _, _, c4, ?_⟩⟩⟩⟩⟩⟩
    refine new_intro fun n15 w3 e3 b3 f3 z3 => ?_
    refine store_intro (i := 0) b3 (by simp) rfl fun w4 b4 f4 z4 => store_intro (i := 1) b4 (by simp) rfl fun w5 b5 f5 z5 => store_intro (i := 2) b5 (by simp) rfl fun w6 b6 f6 z6 => store_intro (i := 3) b6 (by simp) rfl fun w7 b7 f7 z7 => store_intro (i := 4) b7 (by simp) rfl fun w8 b8 f8 z8 => ?_
    have B8 : Blk w8 n15 29 [.int .i64 s.op, .int .i64 s.key, .int .i64 s.sz, .int .i64 s.tag, .slice kq s.keys.length kc] := b8
    have f18 : Fr (fun _ => False) w1 w8 := ((((f3.mono (S' := fun b => b = n15) fun _ h => h.elim).trans f4 fun _ h => .inl h).trans f5 fun _ h => .inl h).trans f6 fun _ h => .inl h).trans f7 (fun _ h => .inl h) |>.trans f8 (fun _ h => .inl h) |>.mono fun b h => .inr (by have h : b = n15 := h; omega)
    have f08 := f1.trans f18 fun _ h => h.elim
    have hint8 := hint.fr0 f18
    clear b3 b4 b5 b6 b7 b8 f3 f4 f5 f6 f7 f8
    -- the loop over the keys
    have keys : (0 ≤ cp → s.op = 1 ∧ (0 ≤ s.key ∧ s.key < 10) ∧ 1 ≤ s.sz ∧ s.sz ≤ ((cp.toNat : Nat) : Int) ∨ s.op = 2 ∨ s.op = 3) → s.keys.length ≤ 8 → F6_J1 k (fun cp' p0' l0' c0' p'' l' c'' m' i' w' => (cp' = cp ∧ l0' = ss.length ∧ p'' = some a ∧ l' = ss.length ∧ m' = ((ss.length : Nat) : Int) ∧ ∃ t : Nat, i' = ((t : Nat) : Int) ∧ t ≤ ss.length ∧ (∀ s ∈ ss.take t, 0 ≤ cp → OkC cp.toNat s) ∧ Fr (fun _ => False) w w') ∧ ss.length - i'.toNat < ss.length - t)
        cp p0 ss.length cc0 ⟨n15, 0, none⟩ (some a) ss.length c' ((ss.length : Nat) : Int) ((t : Nat) : Int) w8 := fun hop hkl => by
      unfold F6_J1
      rw [add_mk, Nat.zero_add]
      refine load_slice (i := 4) B8 rfl ?_
      refine F6_L2_rule (I := fun cp' p0' l0' c0' p'' l' c'' m' i' kp kl kc' x j w' => cp' = cp ∧ p0' = p0 ∧ l0' = ss.length ∧ c0' = cc0 ∧ p'' = some a ∧ l' = ss.length ∧ c'' = c' ∧ m' = ((ss.length : Nat) : Int) ∧ i' = ((t : Nat) : Int) ∧ kp = kq ∧ kl = s.keys.length ∧ x = ((s.keys.length : Nat) : Int) ∧ w' = w8 ∧ ∃ r : Nat, j = ((r : Nat) : Int) ∧ r ≤ s.keys.length ∧ ∀ z ∈ s.keys.take r, 0 ≤ z ∧ z < 10)
        (μ := fun cp' p0' l0' c0' p'' l' c'' m' i' kp kl kc' x j w' => s.keys.length - j.toNat) ?_ ⟨rfl, rfl, rfl, rfl, rfl, rfl, rfl, rfl, rfl, rfl, rfl, rfl, rfl, 0, rfl, Nat.zero_le _, fun z hz => (by cases hz)⟩
      rintro cp' p0' l0' c0' p'' l' c'' m' i' kp kl kc' x j w9 ⟨rfl, y1, y2, y3, y4, y5, y6, y7, y8, y9, y10, rfl, rfl, r, rfl, hr, hz⟩
      obtain rfl := y1.symm
      obtain rfl := y3.symm
      obtain rfl := y6.symm
      obtain rfl := y9.symm
      unfold F6_L2
      rw [y2, y4, y5, y7, y8, y10]
      by_cases hlr : r < s.keys.length
      · rw [decide_eq_true (show ((r : Nat) : Int) < ((s.keys.length : Nat) : Int) by omega), BIf_true]
        have hzx : s.keys[r]? = some s.keys[r] := List.getElem?_eq_getElem hlr
        generalize s.keys[r] = z at hzx
        obtain ⟨b, rfl, hb⟩ := hint8 r z hzx
        rw [NN_mk, Req_iff, Int.toNat_natCast]
        refine ⟨by omega, LoadT_int.2 ⟨_, hb, BIf_intro (fun _ => no f08) fun h1 => BIf_intro (fun _ => no f08) fun h2 => ?_⟩⟩
        have h1 := of_decide_eq_false h1
        have h2 := of_decide_eq_false h2
        rw [addI_i64 (by omega) (by omega)]
        refine ⟨⟨by trivial, by trivial, by trivial, by trivial, by trivial, by trivial, by trivial, by trivial, by trivial, by trivial, by trivial, by trivial, by trivial, r + 1, by omega, hlr, fun y hy => ?_⟩, ?_⟩
        · rw [take_snoc hzx] at hy
          rcases List.mem_append.1 hy with hy | hy
          · exact hz y hy
          · rw [List.mem_singleton] at hy
            omega
        · show s.keys.length - (((r : Nat) : Int) + 1).toNat < s.keys.length - ((r : Nat) : Int).toNat
          omega
      · rw [decide_eq_false (show ¬ ((r : Nat) : Int) < ((s.keys.length : Nat) : Int) by omega), BIf_false]
        rw [List.take_of_length_le (by omega)] at hz
        rw [addI_i64 (by omega) (by omega)]
        refine ⟨⟨rfl, rfl, rfl, rfl, rfl, t + 1, by omega, hlt, fun y hy h0 => ?_, f08⟩, by omega⟩
        rw [take_snoc hx] at hy
        rcases List.mem_append.1 hy with hy | hy
        · exact hall y hy h0
        · rw [List.mem_singleton] at hy
          subst hy
          exact ⟨hop h0, hkl, hz⟩
    refine load_int (i := 0) B8 rfl (BIf_intro (fun _ => no f08) fun h1 => load_int (i := 0) B8 rfl (BIf_intro (fun _ => no f08) fun h2 => load_slice (i := 4) B8 rfl (BIf_intro (fun _ => no f08) fun h3 => load_int (i := 0) B8 rfl ?_)))
    have h1 := of_decide_eq_false h1
    have h2 := of_decide_eq_false h2
    have h3 := of_decide_eq_false h3
    have hkl : s.keys.length ≤ 8 := by omega
    refine BIf_intro (fun h4 => ?_) fun h4 => ?_
    · have h4 : s.op = 1 := by simpa using h4
      refine load_int (i := 1) B8 rfl (BIf_intro (fun _ => no f08) fun h5 => load_int (i := 1) B8 rfl (BIf_intro (fun _ => no f08) fun h6 => load_int (i := 2) B8 rfl (BIf_intro (fun _ => no f08) fun h7 => load_int (i := 2) B8 rfl (BIf_intro (fun _ => no f08) fun h8 => ?_))))
      have h5 := of_decide_eq_false h5
      have h6 := of_decide_eq_false h6
      have h7 := of_decide_eq_false h7
      have h8 := of_decide_eq_false h8
      have := keys (fun h0 => .inl ⟨h4, ⟨by omega, by omega⟩, by omega, by omega⟩) hkl
      simpa using this
    · have h4 : s.op ≠ 1 := by simpa using h4
      have := keys (fun h0 => .inr (by omega)) hkl
      simpa using this
  · rw [decide_eq_false (show ¬ ((t : Nat) : Int) < ((ss.length : Nat) : Int) by omega), BIf_false]
    rw [List.take_of_length_le (by omega)] at hall
    refine BIf_intro (fun h1 => BIf_intro (fun h2 => BIf_intro (fun h3 => bind_intro ?_) fun _ => no f1) fun _ => no f1) fun _ => no f1
    have h1 := of_decide_eq_true h1
    have h2 := of_decide_eq_true h2
    have h3 := of_decide_eq_true h3
    refine hk w1 _ (fun h4 => ?_) f1
    have h4 := of_decide_eq_true h4
    exact ⟨h1, h2, by omega, by omega, fun s hs => hall s hs (by omega)⟩
end
end Go.Proofs.YtmaejciimpnogaaDoor.E
