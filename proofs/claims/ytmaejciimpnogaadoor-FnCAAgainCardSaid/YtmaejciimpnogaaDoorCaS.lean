/-
  Caches: the loops of a run.
-/
import Derived.Test.YtmaejciimpnogaaDoorCaR
namespace Go.Proofs.YtmaejciimpnogaaDoor.E
open Go
set_option linter.unusedSimpArgs false
set_option linter.unusedVariables false
set_option maxRecDepth 100000
set_option maxHeartbeats 16000000

section
variable {w : World} {k : Value → W}
/-- The loop over what was got. -/
theorem F7_L2_spec {cb mb lb C n : Nat} {lru : Bool} {T : List Tri} {ag : Value → Option Addr → Nat → Nat → Option Addr → Nat → Nat → Int → Int → W} {op : Option Addr} {ol oc : Nat} {out : List Sd} {sp : Option Addr} {sl sc t q : Nat} {m : Int} {vs : List (Option Cit)} (hC : CM w cb mb lb lru C T) (ok : OkT C (its T))
    (O : SlO SaK w op ol oc out) (hol : ol < 1000) (B : Blk w n 35 [.slice none 0 0, .slice none 0 0, .int .i64 0]) (hn : ¬ bl op n) (hQ : Blk w q 59 (vs.map oV)) (hvl : vs.length < 1000) (ht : t < 100000)
    (hk : ∀ w' op' oc', CM w' cb mb lb lru C T → SlO SaK w' op' (ol + 1) oc' (out ++ [⟨vs.map itm, vs.map Option.isSome, tot (its T)⟩]) → (∀ b, bl op' b → bl op b ∨ w.heap.size ≤ b) → Fr (fun b => b = n ∨ bl op b) w w' → ag (.iface 68 (.pointer (some ⟨cb, 0, none⟩))) op' (ol + 1) oc' sp sl sc m (((t + 1 : Nat)) : Int) w') :
    Loop [.any, .slice, .addr, .slice, (.int .i64), (.int .i64), .slice, (.int .i64), (.int .i64)] (F7_L2 k ag) (.iface 68 (.pointer (some ⟨cb, 0, none⟩))) op ol oc ⟨n, 0, none⟩ sp sl sc m ((t : Nat) : Int) (some ⟨q, 0, none⟩) vs.length vs.length ((vs.length : Nat) : Int) 0 w := by
  have hnw := B.lt
  refine F7_L2_rule (I := fun c op' ol' oc' a sp' sl' sc' m' t' qp ql qc x j w' => c = .iface 68 (.pointer (some ⟨cb, 0, none⟩)) ∧ op' = op ∧ ol' = ol ∧ oc' = oc ∧ a = ⟨n, 0, none⟩ ∧ sp' = sp ∧ sl' = sl ∧ sc' = sc ∧ m' = m ∧ t' = ((t : Nat) : Int) ∧ qp = some ⟨q, 0, none⟩ ∧ ql = vs.length ∧ x = ((vs.length : Nat) : Int) ∧
      ∃ (r : Nat) (p u : Option Addr) (c1 d1 : Nat), j = ((r : Nat) : Int) ∧ r ≤ vs.length ∧ Blk w' n 35 [.slice p r c1, .slice u r d1, .int .i64 0] ∧ SlO IK w' p r c1 ((vs.take r).map itm) ∧ SlO BK w' u r d1 ((vs.take r).map Option.isSome) ∧ (∀ b, bl p b → w.heap.size ≤ b) ∧ (∀ b, bl u b → w.heap.size ≤ b) ∧ Fr (fun b => b = n) w w')
    (μ := fun c op' ol' oc' a sp' sl' sc' m' t' qp ql qc x j w' => vs.length - j.toNat) ?_ ⟨rfl, rfl, rfl, rfl, rfl, rfl, rfl, rfl, rfl, rfl, rfl, rfl, rfl, 0, none, none, 0, 0, rfl, Nat.zero_le _, B, SlO.nil _ _, SlO.nil _ _, (fun b ⟨_, h, _⟩ => by cases h), (fun b ⟨_, h, _⟩ => by cases h), Fr.refl _ _⟩
  rintro _ op' ol' oc' _ sp' sl' sc' m' t' _ ql qc x j w1 ⟨rfl, e1, e2, e3, rfl, e4, e5, e6, e7, rfl, rfl, e8, rfl, r, p, u, c1, d1, rfl, hr, B1, OI, OH, hp, hu, f1⟩
  obtain rfl := e1.symm
  obtain rfl := e2.symm
  obtain rfl := e3.symm
  obtain rfl := e4.symm
  obtain rfl := e5.symm
  obtain rfl := e6.symm
  obtain rfl := e7.symm
  have hsz1 := f1.size
  have nT : ∀ b u us, b = n → Blk w b u us → u ∉ [27, 4] := fun b u us hb hu => by
    have hu' : Blk w n u us := by rw [← hb]; exact hu
    rw [(hu'.unique B).1]; decide
  unfold F7_L2
  rw [e8]
  by_cases hlt : r < vs.length
  · rw [decide_eq_true (show ((r : Nat) : Int) < ((vs.length : Nat) : Int) by omega), BIf_true]
    have hx : vs[r]? = some vs[r] := List.getElem?_eq_getElem hlt
    generalize vs[r] = v at hx
    have hqn : q ≠ n := fun e => by have := ((e ▸ hQ).unique B).1; simp at this
    have Q1 := hQ.fr f1 hqn
    rw [NN_mk, Req_iff, Int.toNat_natCast]
    refine ⟨by omega, ?_⟩
    simp only [add_mk, Nat.zero_add]
    refine load_any (i := r) Q1 (by rw [List.getElem?_map, hx]; rfl) (ldv ?_)
    refine new_intro fun nb w2 e2 b2 f2 z2 => ?_
    refine store_intro (i := 0) b2 (by simp) rfl fun w3 b3 f3 z3 => store_intro (i := 1) b3 (by simp) rfl fun w4 b4 f4 z4 => drw_intro fun w5 f5 z5 => ?_
    have N5 : Blk w5 nb 53 [.int .i64 (itm v).1, .int .i64 (itm v).2] := b4.fr f5 id
    have f15 : Fr (fun _ => False) w1 w5 := (((f2.mono (S' := fun b => b = nb) fun _ h => h.elim).trans f3 fun _ h => .inl h).trans f4 (fun _ h => .inl h) |>.trans f5 (fun _ h => h.elim)).mono fun b h => .inr (by have h : b = nb := h; omega)
    have B5 := B1.fr f15 id
    have OI5 := OI.fr0 f15
    have OH5 := OH.fr0 f15
    have hsz5 := f15.size
    clear b2 b3 b4 f2 f3 f4 f5 z2 z3 z4 z5
    refine load_slice (i := 0) B5 rfl (load_int (i := 0) N5 rfl (load_int (i := 1) N5 rfl (load_slice (i := 1) B5 rfl ?_)))
    -- the end of each order
    have fin : ∀ (w6 : World) (p' u' : Option Addr) (c' d' : Nat), Blk w6 n 35 [.slice p r c1, .slice u r d1, .int .i64 0] → SlO IK w6 p' (r + 1) c' ((vs.take r).map itm ++ [((itm v).1, (itm v).2)]) → SlO BK w6 u' (r + 1) d' ((vs.take r).map Option.isSome ++ [v.isSome]) → (∀ b, bl p' b → w.heap.size ≤ b) → (∀ b, bl u' b → w.heap.size ≤ b) → Fr (fun b => w.heap.size ≤ b) w5 w6 →
        (Store1 ⟨n, 0, none⟩ (.slice p' (r + 1) c') <| Store1 ⟨n, 1, none⟩ (.slice u' (r + 1) d') <| fun w' => ((∃ (r_1 : Nat) (p u : Option Addr) (c1 d1 : Nat), ((r : Nat) : Int) + 1 = ((r_1 : Nat) : Int) ∧ r_1 ≤ vs.length ∧ Blk w' n 35 [.slice p r_1 c1, .slice u r_1 d1, .int .i64 0] ∧ SlO IK w' p r_1 c1 ((vs.take r_1).map itm) ∧ SlO BK w' u r_1 d1 ((vs.take r_1).map Option.isSome) ∧ (∀ b, bl p b → w.heap.size ≤ b) ∧ (∀ b, bl u b → w.heap.size ≤ b) ∧ Fr (fun b => b = n) w w') ∧
          vs.length - (((r : Nat) : Int) + 1).toNat < vs.length - r)) w6 := fun w6 p' u' c' d' B6 OI6 OH6 hp6 hu6 f6 => by
      refine store_intro (i := 0) B6 (by simp) rfl fun w7 b7 f7 z7 => store_intro (i := 1) b7 (by simp) rfl fun w8 b8 f8 z8 => ?_
      have f68 : Fr (fun b => b = n) w6 w8 := f7.trans f8 fun _ h => .inl h
      have T6 : Tys (fun b => b = n) w6 [35] := Tys.one B6
      refine ⟨⟨r + 1, p', u', c', d', by omega, hlt, b8, ?_, ?_, hp6, hu6, ?_⟩, by omega⟩
      · rw [take_snoc hx, List.map_append]; exact OI6.fr f68 T6 (by decide)
      · rw [take_snoc hx, List.map_append]; exact OH6.fr f68 T6 (by decide)
      · exact ((f1.trans f15 fun _ h => h.elim).trans f6 fun b hb => .inr hb).trans f68 fun b hb => .inl hb
    have hI1000 : r < 100000 := by omega
    have tI : ∀ {w6 : World}, SlO IK w6 p r c1 ((vs.take r).map itm) → Tys (fun b => bl p b) w6 [27] := fun h => h.ty
    have tH : ∀ {w6 : World}, SlO BK w6 u r d1 ((vs.take r).map Option.isSome) → Tys (fun b => bl u b) w6 [4] := fun h => h.ty
    have keep : ∀ {w6 w7 : World} {S : Nat → Prop} {ts : List TypeId} {b t : Nat} {us : List Value}, Blk w6 b t us → Fr S w6 w7 → Tys S w6 ts → t ∉ ts → Blk w7 b t us := fun hb f hT ht => hb.fr f fun hS => ht (hT _ _ _ hS hb)
    have stp : ∀ {y : Option Addr} {x : World} {b : Nat}, (bl y b → w.heap.size ≤ b) → (bl y b → w.heap.size ≤ b) := fun h => h
    rw [addI_i64 (by omega) (by omega)]
    refine ⟨?_, ?_⟩
    · refine b32 fun w6 f6 n6 => chk (i := 1) (B5.fr f6 id) rfl (chk (i := 0) (B5.fr f6 id) rfl ⟨?_, ?_⟩)
      · -- b32, a32, b33, a33
        have O6 := OI5.fr0 f6
        refine a32 O6 n6 hI1000 fun p' c' w7 f7 OI7 hp7 => ?_
        have B7 := keep (B5.fr f6 id) f7 (tI O6) (by decide)
        have N7 := keep (N5.fr f6 id) f7 (tI O6) (by decide)
        have H7 := (OH5.fr0 f6).fr f7 (tI O6) (by decide)
        refine chk (i := 1) B7 rfl (chk (i := 0) N7 rfl (chk (i := 1) N7 rfl (b33 fun w8 f8 n8 => ?_)))
        have B8 := B7.fr f8 id
        have N8 := N7.fr f8 id
        have H8 := H7.fr0 f8
        refine chk (i := 1) B8 rfl (chk (i := 0) N8 rfl (chk (i := 1) N8 rfl (chk (i := 0) B8 rfl (a33 H8 n8 hI1000 fun u' d' w9 f9 OH9 hu9 => ?_))))
        have B9 := keep B8 f9 (tH H8) (by decide)
        have N9 := keep N8 f9 (tH H8) (by decide)
        have I9 := (OI7.fr0 f8).fr f9 (tH H8) (by decide)
        have s6 := f6.size
        have s7 := f7.size
        have s8 := f8.size
        have := fin w9 p' u' c' d' B9 I9 OH9 (fun b hb => by
          rcases hp7 b hb with h | h
          · exact hp b h
          · omega) (fun b hb => by
          rcases hu9 b hb with h | h
          · exact hu b h
          · omega) ((((f6.mono fun _ h => h.elim).trans f7 fun b hb => .inl (hp b hb)).trans f8 fun b hb => hb.elim).trans f9 fun b hb => .inl (hu b hb))
        refine chk (i := 0) N9 rfl (chk (i := 1) N9 rfl (chk (i := 0) B9 rfl ?_))
        simpa using this
      · -- b32, b33, a32, a33
        refine b33 fun w7 f7 n7 => ?_
        have f57 := f6.trans f7 fun _ h => h.elim
        have B7 := B5.fr f57 id
        have N7 := N5.fr f57 id
        have O7 := OI5.fr0 f57
        refine chk (i := 1) B7 rfl (chk (i := 0) N7 rfl (chk (i := 1) N7 rfl (chk (i := 0) B7 rfl (a32 O7 (n6.fr f7 id) hI1000 fun p' c' w8 f8 OI8 hp8 => ?_))))
        have B8 := keep B7 f8 (tI O7) (by decide)
        have N8 := keep N7 f8 (tI O7) (by decide)
        have H8 := (OH5.fr0 f57).fr f8 (tI O7) (by decide)
        have n8 := keep n7 f8 (tI O7) (by decide)
        refine chk (i := 1) B8 rfl (chk (i := 0) N8 rfl (chk (i := 1) N8 rfl (a33 H8 n8 hI1000 fun u' d' w9 f9 OH9 hu9 => ?_)))
        have B9 := keep B8 f9 (tH H8) (by decide)
        have N9 := keep N8 f9 (tH H8) (by decide)
        have I9 := OI8.fr f9 (tH H8) (by decide)
        have s6 := f57.size
        have s7 := f8.size
        have := fin w9 p' u' c' d' B9 I9 OH9 (fun b hb => by
          rcases hp8 b hb with h | h
          · exact hp b h
          · omega) (fun b hb => by
          rcases hu9 b hb with h | h
          · exact hu b h
          · omega) (((f57.mono fun _ h => h.elim).trans f8 fun b hb => .inl (hp b hb)).trans f9 fun b hb => .inl (hu b hb))
        refine chk (i := 0) N9 rfl (chk (i := 1) N9 rfl (chk (i := 0) B9 rfl ?_))
        simpa using this
    · -- b33, b32, a32, a33
      refine b33 fun w6 f6 n6 => ?_
      refine chk (i := 1) (B5.fr f6 id) rfl (chk (i := 0) (N5.fr f6 id) rfl (chk (i := 1) (N5.fr f6 id) rfl (chk (i := 0) (B5.fr f6 id) rfl (b32 fun w7 f7 n7 => ?_))))
      have f57 := f6.trans f7 fun _ h => h.elim
      have B7 := B5.fr f57 id
      have N7 := N5.fr f57 id
      have O7 := OI5.fr0 f57
      refine chk (i := 1) B7 rfl (chk (i := 0) B7 rfl (a32 O7 n7 hI1000 fun p' c' w8 f8 OI8 hp8 => ?_))
      have B8 := keep B7 f8 (tI O7) (by decide)
      have N8 := keep N7 f8 (tI O7) (by decide)
      have H8 := (OH5.fr0 f57).fr f8 (tI O7) (by decide)
      have n8 := keep (n6.fr f7 id) f8 (tI O7) (by decide)
      refine chk (i := 1) B8 rfl (chk (i := 0) N8 rfl (chk (i := 1) N8 rfl (a33 H8 n8 hI1000 fun u' d' w9 f9 OH9 hu9 => ?_)))
      have B9 := keep B8 f9 (tH H8) (by decide)
      have N9 := keep N8 f9 (tH H8) (by decide)
      have I9 := OI8.fr f9 (tH H8) (by decide)
      have s6 := f57.size
      have s7 := f8.size
      have := fin w9 p' u' c' d' B9 I9 OH9 (fun b hb => by
        rcases hp8 b hb with h | h
        · exact hp b h
        · omega) (fun b hb => by
        rcases hu9 b hb with h | h
        · exact hu b h
        · omega) (((f57.mono fun _ h => h.elim).trans f8 fun b hb => .inl (hp b hb)).trans f9 fun b hb => .inl (hu b hb))
      refine chk (i := 0) N9 rfl (chk (i := 1) N9 rfl (chk (i := 0) B9 rfl ?_))
      simpa using this
  · rw [decide_eq_false (show ¬ ((r : Nat) : Int) < ((vs.length : Nat) : Int) by omega), BIf_false]
    have : r = vs.length := by omega
    subst this
    rw [List.take_length] at OI OH
    have hC1 := hC.fr f1 fun b hb => ⟨_, _, (show b = n from hb) ▸ B, by decide⟩
    have O1 := O.fr' f1 (fun b hb e => hn (by rw [← show b = n from e]; exact hb)) (fun b u us hb hu => nT b u us hb hu)
    have e1 : vs.length = (vs.map itm).length := by simp
    have e2 : vs.length = (vs.map Option.isSome).length := by simp
    have B1' : Blk w1 n 35 [.slice p (vs.map itm).length c1, .slice u (vs.map Option.isSome).length d1, .int .i64 0] := by rw [← e1, ← e2]; exact B1
    refine F7_J2_spec hC1 ok O1 hol B1' hn OI.sl OH.sl ht (op_l := 0) fun w2 op2 oc2 hC2 O2 hop2 f2 => hk w2 op2 oc2 hC2 O2 (fun b hb => ?_) (f1.mono (fun b h => .inl (.inl h)) |>.trans f2 fun b h => .inl h)
    rcases hop2 b hb with h | h
    · exact .inl h
    · exact .inr (by omega)
end
end Go.Proofs.YtmaejciimpnogaaDoor.E
