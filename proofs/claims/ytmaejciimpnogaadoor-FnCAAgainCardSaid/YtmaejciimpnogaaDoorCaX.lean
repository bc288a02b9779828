/-
  FnCAScaled and FnCAAgain: the walks from their arguments on.
-/
import Derived.Test.YtmaejciimpnogaaDoorCaW
namespace Go.Proofs.YtmaejciimpnogaaDoor.E
open Go
set_option linter.unusedSimpArgs false
set_option linter.unusedVariables false
set_option maxRecDepth 100000
set_option maxHeartbeats 16000000

def IntK : Rk Int := ⟨3, 1, fun _ g x => g 0 = some (.int .i64 x), [], fun h h0 => by rw [← h 0 (by decide)]; exact h0, fun _ _ h => h⟩
def StK (w0 : World) : Rk CS := ⟨29, 5, fun w g s => ∃ q c, g 0 = some (.int .i64 s.op) ∧ g 1 = some (.int .i64 s.key) ∧ g 2 = some (.int .i64 s.sz) ∧ g 3 = some (.int .i64 s.tag) ∧ g 4 = some (.slice q s.keys.length c) ∧ (Ints w0 q s.keys ∨ Sl IntK w q s.keys), [3],
  fun h ⟨q, c, h0, h1, h2, h3, h4, h5⟩ => ⟨q, c, by rw [← h 0 (by decide)]; exact h0, by rw [← h 1 (by decide)]; exact h1, by rw [← h 2 (by decide)]; exact h2, by rw [← h 3 (by decide)]; exact h3, by rw [← h 4 (by decide)]; exact h4, h5⟩,
  fun f hd ⟨q, c, h0, h1, h2, h3, h4, h5⟩ => ⟨q, c, h0, h1, h2, h3, h4, h5.imp id fun h5 => sl_dp h5 f hd (by decide) (fun u hu => by cases hu)⟩⟩
theorem stA_of {w0 w : World} {p : Option Addr} {ss : List CS} (h : Sl (StK w0) w p ss) (f : Fr (fun _ => False) w0 w) : StA w p ss := fun i s hs => by
  obtain ⟨q, o, rfl, kq, kc, h0, h1, h2, h3, h4, h5⟩ := h.get hs
  refine ⟨⟨q, o, none⟩, kq, kc, rfl, ?_, ?_, ?_, ?_, ?_, ?_⟩
  · rw [add_mk, add_mk]; exact h0
  · rw [add_mk, add_mk]; exact h1
  · rw [add_mk, add_mk]; exact h2
  · rw [add_mk, add_mk]; exact h3
  · rw [add_mk, add_mk]; exact h4
  · rcases h5 with h5 | h5
    · exact h5.fr0 f
    · intro j x hx
      obtain ⟨r, u, rfl, hc⟩ := h5.get hx
      refine ⟨_, rfl, ?_⟩
      rw [add_mk]
      have hc : w.cell? ⟨r, u + j * 1 + 0, none⟩ = some (.int .i64 x) := hc
      rw [show u + j * 1 + 0 = u + j by omega] at hc
      exact hc
theorem StA.at_ {w w1 : World} {p : Option Addr} {ss : List CS} (h : StA w p ss) (f : Fr (fun _ => False) w w1) {i : Nat} {s : CS} (hs : ss[i]? = some s) : ∃ a q c, p = some a ∧ w1.cell? ((a.add (i * 5)).add 0) = some (.int .i64 s.op) ∧ w1.cell? ((a.add (i * 5)).add 1) = some (.int .i64 s.key) ∧ w1.cell? ((a.add (i * 5)).add 2) = some (.int .i64 s.sz) ∧ w1.cell? ((a.add (i * 5)).add 3) = some (.int .i64 s.tag) ∧
    w1.cell? ((a.add (i * 5)).add 4) = some (.slice q s.keys.length c) ∧ Ints w q s.keys := by
  obtain ⟨a, q, c, h1, c0, c1, c2, c3, c4, h2⟩ := h i s hs
  exact ⟨a, q, c, h1, by rw [f.cell (cell_lt c0) id]; exact c0, by rw [f.cell (cell_lt c1) id]; exact c1, by rw [f.cell (cell_lt c2) id]; exact c2, by rw [f.cell (cell_lt c3) id]; exact c3, by rw [f.cell (cell_lt c4) id]; exact c4, h2⟩
theorem fill29_1 (a b c d : Int) (p : Option Addr) (l m : Nat) : ∀ i : TypeInfo, i.size = 5 → Instr.fill (fun j => some (j * i.size, i.size)) ((Array.range (1 * i.size)).map (z29.cells[· % z29.cells.size]!)) [(0, .agg #[.int .i64 a, .int .i64 b, .int .i64 c, .int .i64 d, .slice p l m])] =
    some [.int .i64 a, .int .i64 b, .int .i64 c, .int .i64 d, .slice p l m].toArray := by
  intro i h; rw [h]; kernel_rfl
theorem fill29_2 (a b c d a' b' c' d' : Int) (p p' : Option Addr) (l m l' m' : Nat) : ∀ i : TypeInfo, i.size = 5 → Instr.fill (fun j => some (j * i.size, i.size)) ((Array.range (2 * i.size)).map (z29.cells[· % z29.cells.size]!)) [(0, .agg #[.int .i64 a, .int .i64 b, .int .i64 c, .int .i64 d, .slice p l m]), (1, .agg #[.int .i64 a', .int .i64 b', .int .i64 c', .int .i64 d', .slice p' l' m'])] =
    some [.int .i64 a, .int .i64 b, .int .i64 c, .int .i64 d, .slice p l m, .int .i64 a', .int .i64 b', .int .i64 c', .int .i64 d', .slice p' l' m'].toArray := by
  intro i h; rw [h]; kernel_rfl
theorem fill3_1 (a : Int) : ∀ i : TypeInfo, i.size = 1 → Instr.fill (fun j => some (j * i.size, i.size)) ((Array.range (1 * i.size)).map ((Value.int .i64 0).cells[· % (Value.int .i64 0).cells.size]!)) [(0, .int .i64 a)] = some [.int .i64 a].toArray := by
  intro i h; rw [h]; kernel_rfl
section
variable {w w0 : World} {k : Value → W}
/-- A step is appended. -/
theorem app1 {op : Option Addr} {ol oc : Nat} {X : List CS} {s : CS} {kq : Option Addr} {kc : Nat} {f : Option Addr → Nat → Nat → W} (O : SlO (StK w0) w op ol oc X) (hl : ol < 1000) (hi : Ints w0 kq s.keys)
    (hk : ∀ w' p' c', SlO (StK w0) w' p' (ol + 1) c' (X ++ [s]) → (∀ b, bl p' b → bl op b ∨ w.heap.size ≤ b) → Fr (fun b => bl op b) w w' → f p' (ol + 1) c' w') :
    RawT Tryd.prog (Instr.buildSlice 22 1 [(0, .agg #[.int .i64 s.op, .int .i64 s.key, .int .i64 s.sz, .int .i64 s.tag, .slice kq s.keys.length kc])].toArray) (.s (.one .slice)) (fun a m d => NextT Tryd.prog (builtin .append #[22, 22] 22 [false, false].toArray [.slice op ol oc, .slice a m d].toArray) (.s (.one .slice)) f) w := by
  obtain ⟨i29, g1, g2, g3, g4⟩ := inf29
  refine build_intro und22 g1 g2 (by omega) (by omega) (fill29_1 _ _ _ _ _ _ _ i29 g3) fun w1 f1 b1 z1 => ?_
  refine SlO.append (K := StK w0) und22 g1 g2 g3 (by show 0 < 5; decide) rfl g4 (by show 29 ∉ [3]; decide) (O.fr0 f1) b1 (ys := [s]) (Rows.one (K := StK w0) ⟨kq, kc, rfl, rfl, rfl, rfl, rfl, .inl hi⟩) rfl rfl (fun u hu => ?_) (by omega) fun p' c' w2 f2 O2 hp2 => ?_
  · simp only [List.mem_cons, List.not_mem_nil, or_false] at hu
    rcases hu with rfl | rfl | rfl | rfl | rfl <;> rfl
  · refine hk w2 p' c' O2 (fun b hb => ?_) ((f1.mono fun _ h => h.elim).trans f2 fun b hb => .inl hb)
    rcases hp2 b hb with h | h
    · exact .inl h
    · exact .inr (by omega)
theorem remI_nat {a : Int} {m : Nat} (h : 0 ≤ a) : remI a ((m : Nat) : Int) = a % ((m : Nat) : Int) := remI_eq h
theorem pol_of {x : Int} (h : 0 ≤ x ∧ x < 256) : remI (IntKind.wrap .i64 x) 3 = 0 ∨ remI (IntKind.wrap .i64 x) 3 = 1 ∨ remI (IntKind.wrap .i64 x) 3 = 2 := by
  rw [wrap_i64 (by omega) (by omega), remI_eq (by omega)]
  omega
theorem times_of {x : Int} (h : 0 ≤ x ∧ x < 256) : ∃ n : Nat, addI .i64 1 (remI (IntKind.wrap .i64 x) 9) = ((n : Nat) : Int) ∧ 1 ≤ n ∧ n ≤ 9 := by
  rw [wrap_i64 (by omega) (by omega), remI_eq (by omega), addI_i64 (by omega) (by omega)]
  exact ⟨(1 + x % 9).toNat, by omega, by omega, by omega⟩
theorem F4_J1_spec {ag : Int → Int → Option Addr → Nat → Nat → Int → Option Addr → Nat → Nat → Option Addr → Nat → Nat → Int → Int → W} {cp pl nn x : Int} {p0 sp op kq : Option Addr} {l0 c0 sl sc ol oc n t kc : Nat} {X : List CS} {s : CS}
    (B : Blk w n 29 [.int .i64 s.op, .int .i64 s.key, .int .i64 s.sz, .int .i64 s.tag, .slice kq s.keys.length kc]) (O : SlO (StK w0) w op ol oc X) (hi : Ints w0 kq s.keys) (hl : ol < 1000) (ht : t < 1000)
    (hk : ∀ w' p' c', SlO (StK w0) w' p' (ol + 1) c' (X ++ [s]) → (∀ b, bl p' b → bl op b ∨ w.heap.size ≤ b) → Fr (fun b => bl op b) w w' → ag cp pl p0 l0 c0 nn p' (ol + 1) c' sp sl sc x (((t + 1 : Nat)) : Int) w') :
    F4_J1 k ag cp pl p0 l0 c0 nn op ol oc ⟨n, 0, none⟩ sp sl sc x ((t : Nat) : Int) w := by
  unfold F4_J1
  simp only [add_mk, Nat.zero_add]
  refine load_int (i := 0) B rfl (load_int (i := 1) B rfl (load_int (i := 2) B rfl (load_int (i := 3) B rfl (load_slice (i := 4) B rfl ?_))))
  refine app1 O hl hi fun w' p' c' O' hp' f' => ?_
  rw [addI_i64 (by omega) (by omega), show ((t : Nat) : Int) + 1 = ((t + 1 : Nat) : Int) by omega]
  exact hk w' p' c' O' hp' f'
/-- FnCAScaled. -/
theorem F4_spec {cap pol times : Int} {p : Option Addr} {c : Nat} {ss : List CS} (hp : 0 ≤ pol ∧ pol < 256) (hti : 0 ≤ times ∧ times < 256) (hS : StA w p ss) (hk : ∀ w', Fr (fun _ => False) w w' → k (.bool true) w') :
    F4 k cap pol p ss.length c times w := by
  unfold F4
  refine F5_call (F5_spec hS fun w1 b hb f1 => back_bool ?_)
  refine BIf_intro (fun _ => hk w1 f1) fun h => ?_
  have hl := hb (by simpa using h)
  refine F6_call (F6_spec (hS.fr0 f1) hl fun w2 b2 hb2 f2 => back_bool ?_)
  have f02 := f1.trans f2 fun _ h => h.elim
  refine BIf_intro (fun _ => hk w2 f02) fun h2 => ?_
  obtain ⟨h1, h60, hl30, hl0, hok⟩ := hb2 (by simpa using h2)
  obtain ⟨n, en, n1, n9⟩ := times_of hti
  obtain ⟨C, rfl⟩ := Int.eq_ofNat_of_zero_le (show 0 ≤ cap by omega)
  rw [Int.toNat_natCast] at hok
  refine Req_iff.2 ⟨by decide, bind_intro ?_⟩
  rw [en]
  refine F4_L1_rule (I := fun cp pl p0 l0 c0 m op ol oc p' l' c' x i w' => cp = ((C : Nat) : Int) ∧ pl = pol ∧ p0 = p ∧ l0 = ss.length ∧ m = ((n : Nat) : Int) ∧ p' = p ∧ l' = ss.length ∧ x = ((ss.length : Nat) : Int) ∧ ∃ t : Nat, i = ((t : Nat) : Int) ∧ t ≤ ss.length ∧ ol = t ∧ SlO (StK w) w' op ol oc ((ss.take t).map (scC n)) ∧ (∀ b, bl op b → w.heap.size ≤ b) ∧ Fr (fun _ => False) w w')
    (μ := fun cp pl p0 l0 c0 m op ol oc p' l' c' x i w' => ss.length - i.toNat) ?_ ⟨rfl, rfl, rfl, rfl, rfl, rfl, rfl, rfl, 0, rfl, Nat.zero_le _, rfl, SlO.nil _ _, (fun b ⟨_, h, _⟩ => by cases h), f02⟩
  rintro _ pl p0 l0 c0 _ op ol oc p' l' c' _ i w3 ⟨rfl, rfl, y1, y2, rfl, y3, y4, rfl, t, rfl, ht, rfl, O, hop, f3⟩
  obtain rfl := y1.symm
  obtain rfl := y3.symm
  unfold F4_L1
  rw [y2, y4]
  by_cases hlt : ol < ss.length
  · rw [decide_eq_true (show ((ol : Nat) : Int) < ((ss.length : Nat) : Int) by omega), BIf_true]
    have hx : ss[ol]? = some ss[ol] := List.getElem?_eq_getElem hlt
    have hsm : ss[ol] ∈ ss := List.getElem_mem hlt
    generalize ss[ol] = s at hx hsm
    obtain ⟨a, kq, kc, rfl, c0, c1, c2, c3, c4, hint⟩ := hS.at_ f3 hx
    rw [NN_mk, Req_iff, Int.toNat_natCast]
    refine ⟨by omega, LoadT_int.2 ⟨_, c0, LoadT_int.2 ⟨_, c1, LoadT_int.2 ⟨_, c2, LoadT_int.2 ⟨_, c3, LoadT_slice.2 ⟨_, _, _, c4, ?_⟩⟩⟩⟩⟩⟩
    refine new_intro fun n23 w4 e4 b4 f4 z4 => ?_
    refine store_intro (i := 0) b4 (by simp) rfl fun w5 b5 f5 z5 => store_intro (i := 1) b5 (by simp) rfl fun w6 b6 f6 z6 => store_intro (i := 2) b6 (by simp) rfl fun w7 b7 f7 z7 => store_intro (i := 3) b7 (by simp) rfl fun w8 b8 f8 z8 => store_intro (i := 4) b8 (by simp) rfl fun w9 b9 f9 z9 => ?_
    have B9 : Blk w9 n23 29 [.int .i64 s.op, .int .i64 s.key, .int .i64 s.sz, .int .i64 s.tag, .slice kq s.keys.length kc] := b9
    have f39 : Fr (fun b => b = n23) w3 w9 := ((((f4.mono (S' := fun b => b = n23) fun _ h => h.elim).trans f5 fun _ h => .inl h).trans f6 fun _ h => .inl h).trans f7 fun _ h => .inl h).trans f8 (fun _ h => .inl h) |>.trans f9 (fun _ h => .inl h)
    have sz3 := f3.size
    clear b4 b5 b6 b7 b8 b9 f4 f5 f6 f7 f8 f9
    have key : ∀ w10, Blk w10 n23 29 [.int .i64 (scC n s).op, .int .i64 (scC n s).key, .int .i64 (scC n s).sz, .int .i64 (scC n s).tag, .slice kq (scC n s).keys.length kc] → Fr (fun b => b = n23) w3 w10 → SlO (StK w) w10 op ol oc ((ss.take ol).map (scC n)) := fun w10 B10 f10 => O.fr0 (f10.mono fun b h => .inr (by have h : b = n23 := h; omega))
    have ksame : (scC n s).keys = s.keys := (sc_op n s).2.1
    refine load_int (i := 0) B9 rfl ?_
    have done : ∀ {w10 w11 : World} {p' : Option Addr} {c'' : Nat}, SlO (StK w) w11 p' (ol + 1) c'' ((ss.take ol).map (scC n) ++ [scC n s]) → (∀ b, bl p' b → bl op b ∨ w10.heap.size ≤ b) → Fr (fun b => bl op b) w10 w11 → Fr (fun b => b = n23) w3 w10 → (∃ t : Nat, (((ol + 1 : Nat)) : Int) = ((t : Nat) : Int) ∧ t ≤ ss.length ∧ ol + 1 = t ∧ SlO (StK w) w11 p' (ol + 1) c'' ((ss.take t).map (scC n)) ∧ (∀ b, bl p' b → w.heap.size ≤ b) ∧ Fr (fun _ => False) w w11) ∧ ss.length - (((ol + 1 : Nat)) : Int).toNat < ss.length - ol := fun {w10 w11 p' c''} O' hp' f' f10 => by
      have s10 := f10.size
      refine ⟨⟨ol + 1, rfl, hlt, rfl, by rw [take_snoc hx, List.map_append]; exact O', fun b hb => ?_, ?_⟩, by omega⟩
      · rcases hp' b hb with h | h
        · exact hop b h
        · omega
      · exact (f3.trans f10 fun b hb => .inr (by have hb : b = n23 := hb; omega)).trans f' fun b hb => .inr (hop b hb)
    by_cases hop1 : s.op = 1
    · rw [show (s.op == 1) = true by rw [hop1]; rfl, BIf_true]
      refine load_int (i := 2) B9 rfl ?_
      have e : scC n s = { s with sz := s.sz * ((n : Nat) : Int) } := by unfold scC; rw [if_pos hop1]
      have hz : 1 ≤ s.sz ∧ s.sz ≤ ((C : Nat) : Int) := by rcases (hok s hsm).1 with ⟨_, _, h⟩ | h | h <;> omega
      rw [mul_small ⟨by omega, by omega⟩ (by omega)]
      refine store_intro (i := 2) B9 (by simp) rfl fun w10 b10 f10 z10 => ?_
      have B10 : Blk w10 n23 29 [.int .i64 (scC n s).op, .int .i64 (scC n s).key, .int .i64 (scC n s).sz, .int .i64 (scC n s).tag, .slice kq (scC n s).keys.length kc] := by rw [e]; exact b10
      have f310 := f39.trans f10 fun _ h => .inl h
      refine F4_J1_spec B10 (key w10 B10 f310) (by rw [ksame]; exact hint) (by omega) (by omega) fun w11 p' c'' O' hp' f' => ?_
      have := done O' hp' f' f310
      simpa using this
    · rw [show (s.op == 1) = false by rw [beq_eq_false_iff_ne]; exact hop1, BIf_false]
      have e : scC n s = s := by unfold scC; rw [if_neg hop1]
      have B10 : Blk w9 n23 29 [.int .i64 (scC n s).op, .int .i64 (scC n s).key, .int .i64 (scC n s).sz, .int .i64 (scC n s).tag, .slice kq (scC n s).keys.length kc] := by rw [e]; exact B9
      refine F4_J1_spec B10 (key w9 B10 f39) (by rw [ksame]; exact hint) (by omega) (by omega) fun w11 p' c'' O' hp' f' => ?_
      have := done O' hp' f' f39
      simpa using this
  · rw [decide_eq_false (show ¬ ((ol : Nat) : Int) < ((ss.length : Nat) : Int) by omega), BIf_false]
    have : ol = ss.length := by omega
    subst this
    rw [List.take_length] at O
    refine Req_iff.2 ⟨by decide, bind_intro ?_⟩
    refine F8_call (F8_spec fun w4 f4 => back_bool ?_)
    rw [BIf_true]
    have f04 := f3.trans f4 fun _ h => h.elim
    have hp3 := pol_of hp
    refine F7_call (F7_spec hp3 (hS.fr0 f04) hok (by omega) (by omega) (by omega) fun w5 q5 d5 hA f5 => back_slice ?_)
    have f05 := f04.trans f5 fun _ h => h.elim
    have hmc : mulI .i64 ((C : Nat) : Int) ((n : Nat) : Int) = ((C * n : Nat) : Int) := by rw [mul_small ⟨by omega, by omega⟩ (by omega), Int.natCast_mul]
    rw [hmc]
    have hCn : C * n ≤ 60 * 9 := Nat.mul_le_mul (by omega) n9
    have hCn1 : 1 * 1 ≤ C * n := Nat.mul_le_mul (by omega) n1
    have lm : ss.length = (ss.map (scC n)).length := by simp
    rw [lm]
    refine F7_call (F7_spec hp3 (stA_of ((O.sl.fr0 f4).fr0 f5) f05) (fun s hs => ?_) (by omega) (by omega) (by omega) fun w6 q6 d6 hA6 f6 => back_slice ?_)
    · obtain ⟨x, hx, rfl⟩ := List.mem_map.1 hs
      exact okC_sc (by omega) (hok x hx)
    have ea := ans_sc (n := n) (by omega) (decide (remI (IntKind.wrap .i64 pl) 3 ≠ 0)) (C := C) ss [] hok
    have ea : ansC (decide (remI (IntKind.wrap .i64 pl) 3 ≠ 0)) (C * n) [] (ss.map (scC n)) = _ := ea
    rw [ea] at hA6
    have l1 := ansC_len (decide (remI (IntKind.wrap .i64 pl) 3 ≠ 0)) C ss []
    have sm := ans_small (lru := decide (remI (IntKind.wrap .i64 pl) 3 ≠ 0)) ss [] hok (OkT.nil (by omega)) List.nodup_nil
    generalize ansC (decide (remI (IntKind.wrap .i64 pl) 3 ≠ 0)) C [] ss = X at *
    rw [← lm, ← l1]
    have l2 : X.length = (X.map (scS n)).length := by simp
    refine F9_call ?_
    have := F9_spec (k := fun v => Back (.s (.one .bool)) (fun b46 => k (.bool b46)) (.returned v)) (c := d5) (d := d6) (hA.fr0 f6) hA6 (by omega) sm (by omega) fun w7 f7 => back_bool (hk w7 ((f05.trans f6 fun _ h => h.elim).trans f7 fun _ h => h.elim))
    rw [← l2] at this
    exact this
end
end Go.Proofs.YtmaejciimpnogaaDoor.E
