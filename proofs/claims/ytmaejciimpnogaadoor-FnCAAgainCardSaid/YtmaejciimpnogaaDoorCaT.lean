/-
  Caches: a run.
-/
import Derived.Test.YtmaejciimpnogaaDoorCaS
namespace Go.Proofs.YtmaejciimpnogaaDoor.E
open Go
set_option linter.unusedSimpArgs false
set_option linter.unusedVariables false
set_option maxRecDepth 100000
set_option maxHeartbeats 16000000

theorem rems_sub : ∀ (ks : List ByteArray) (L : List Cit), List.Sublist (rems ks L) L
  | [], L => List.Sublist.refl _
  | k :: ks, L => (rems_sub ks (rem k L)).trans (rem_sub k L)
section
variable {w : World} {k : Value → W}
theorem F7_J1_spec {op : Option Addr} {ol oc C : Nat} {o : Option (Nat × Int)} {p : Option Addr} {c : Nat} {ss : List CS} (hO : Own w 43 op ol oc ((o.toList).map fun x => optV x.1)) (ho : ∀ x, o = some x → (x.2 = 0 ∨ x.2 = 1) ∧ Blk w x.1 45 [.int .u8 x.2])
    (hS : StA w p ss) (hok : ∀ s ∈ ss, OkC C s) (hl : ss.length < 200) (h1 : 1 ≤ C) (h2 : C < 1000)
    (hk : ∀ w' q d, Sl SaK w' q (ansC (decide ((o.map (·.2)).getD 1 = 1)) C [] ss) → Fr (fun _ => False) w w' → k (.slice q ss.length d) w') : F7_J1 k ((C : Nat) : Int) p ss.length c op ol oc w := by
  unfold F7_J1
  rw [wrap_u64 (by omega) (by omega)]
  refine F12_call (F12_spec hO ho fun w1 cb mb lb hC hcb hmb hlb f1 => back_any ?_)
  generalize decide ((o.map (·.2)).getD 1 = 1) = lru at *
  refine F7_L1_rule (I := fun cv rp rl rc p' l' c' m j w' => cv = .iface 68 (.pointer (some ⟨cb, 0, none⟩)) ∧ p' = p ∧ l' = ss.length ∧ m = ((ss.length : Nat) : Int) ∧ ∃ (t : Nat) (T : List Tri), j = ((t : Nat) : Int) ∧ t ≤ ss.length ∧ rl = t ∧ CM w' cb mb lb lru C T ∧ OkT C (its T) ∧ its T = runC lru C [] (ss.take t) ∧ (∀ b, G cb mb lb T b → w.heap.size ≤ b) ∧
      SlO SaK w' rp rl rc (ansC lru C [] (ss.take t)) ∧ (∀ b, bl rp b → w.heap.size ≤ b) ∧ Fr (fun _ => False) w w')
    (μ := fun cv rp rl rc p' l' c' m j w' => ss.length - j.toNat) ?_ ⟨rfl, rfl, rfl, rfl, 0, [], rfl, Nat.zero_le _, rfl, hC, ⟨h2, fun i hi => (by cases hi), Nat.zero_le _⟩, rfl, fun b hb => ?_, SlO.nil _ _, (fun b ⟨_, h, _⟩ => by cases h), f1⟩
  rotate_left
  · rcases hb with h | h | h
    · omega
    · omega
    · have h : b = lb := by simpa [els] using h
      omega
  rintro _ rp rl rc p' l' c' m j w2 ⟨rfl, e1, e2, rfl, t, T, rfl, ht, rfl, hC2, okT, hrun, hG, hO2, hrp, f2⟩
  obtain rfl := e1.symm
  unfold F7_L1
  rw [e2]
  by_cases hlt : rl < ss.length
  · rw [decide_eq_true (show ((rl : Nat) : Int) < ((ss.length : Nat) : Int) by omega), BIf_true]
    have hx : ss[rl]? = some ss[rl] := List.getElem?_eq_getElem hlt
    have hsm : ss[rl] ∈ ss := List.getElem_mem hlt
    generalize ss[rl] = s at hx hsm
    obtain ⟨hop, hkl, hkb⟩ := hok s hsm
    obtain ⟨a, kq, kc, rfl, c0, c1, c2, c3, c4, hint⟩ := (hS.fr0 f2) rl s hx
    rw [NN_mk, Req_iff, Int.toNat_natCast]
    refine ⟨by omega, LoadT_int.2 ⟨_, c0, LoadT_int.2 ⟨_, c1, LoadT_int.2 ⟨_, c2, LoadT_int.2 ⟨_, c3, LoadT_slice.2 ⟨_, _, _, c4, ?_⟩⟩⟩⟩⟩⟩
    refine new_intro fun n23 w3 e3 b3 f3 z3 => ?_
    refine store_intro (i := 0) b3 (by simp) rfl fun w4 b4 f4 z4 => store_intro (i := 1) b4 (by simp) rfl fun w5 b5 f5 z5 => store_intro (i := 2) b5 (by simp) rfl fun w6 b6 f6 z6 => store_intro (i := 3) b6 (by simp) rfl fun w7 b7 f7 z7 => store_intro (i := 4) b7 (by simp) rfl fun w8 b8 f8 z8 => ?_
    have B8 : Blk w8 n23 29 [.int .i64 s.op, .int .i64 s.key, .int .i64 s.sz, .int .i64 s.tag, .slice kq s.keys.length kc] := b8
    have f28 : Fr (fun _ => False) w2 w8 := ((((f3.mono (S' := fun b => b = n23) fun _ h => h.elim).trans f4 fun _ h => .inl h).trans f5 fun _ h => .inl h).trans f6 fun _ h => .inl h).trans f7 (fun _ h => .inl h) |>.trans f8 (fun _ h => .inl h) |>.mono fun b h => .inr (by have h : b = n23 := h; omega)
    refine new_intro fun n24 w9 e9 b9 f9 z9 => ?_
    have B9 := B8.fr f9 id
    have f29 := f28.trans f9 fun _ h => h.elim
    clear b3 b4 b5 b6 b7 b8 f3 f4 f5 f6 f7 f8 z3 z4 z5 z6 z7 z8
    have s1 := f2.size
    have s29 := f29.size
    have s8 := f28.size
    refine load_int (i := 0) B9 rfl ?_
    have hint9 := hint.fr0 f29
    -- what is common to all ends
    have fin : ∀ (w10 : World) (T' : List Tri) (rp' : Option Addr) (rc' : Nat), CM w10 cb mb lb lru C T' → OkT C (its T') → its T' = stepC lru C (its T) s → (∀ b, G cb mb lb T' b → w.heap.size ≤ b) → SlO SaK w10 rp' (rl + 1) rc' (ansC lru C [] (ss.take rl) ++ [sayC lru C (its T) s]) → (∀ b, bl rp' b → w.heap.size ≤ b) → Fr (fun _ => False) w w10 →
        (∃ (t : Nat) (T : List Tri), (((rl + 1 : Nat)) : Int) = ((t : Nat) : Int) ∧ t ≤ ss.length ∧ rl + 1 = t ∧ CM w10 cb mb lb lru C T ∧ OkT C (its T) ∧ its T = runC lru C [] (ss.take t) ∧ (∀ b, G cb mb lb T b → w.heap.size ≤ b) ∧
      SlO SaK w10 rp' (rl + 1) rc' (ansC lru C [] (ss.take t)) ∧ (∀ b, bl rp' b → w.heap.size ≤ b) ∧ Fr (fun _ => False) w w10) ∧ ss.length - (((rl + 1 : Nat)) : Int).toNat < ss.length - rl := fun w10 T' rp' rc' hC' ok' e' hG' hO' hrp' f' => by
      refine ⟨⟨rl + 1, T', rfl, hlt, rfl, hC', ok', ?_, hG', ?_, hrp', f'⟩, by omega⟩
      · rw [e', hrun, take_snoc hx, runC_snoc]
      · rw [take_snoc hx, ansC_snoc, ← hrun]; exact hO'
    have hC9 := hC2.fr0 f29
    have hO9 := hO2.fr0 f29
    have f09 := f2.trans f29 fun _ h => h.elim
    have hn24 : ¬ bl rp n24 := fun hb => by have := hO2.lt hb; omega
    have hcap : ∀ {w' : World}, Fr (fun b => b = n24 ∨ bl rp b) w9 w' → Fr (fun _ => False) w w' := fun f => f09.trans f fun b hb => .inr (by
      rcases hb with h | h
      · omega
      · exact hrp b h)
    have hTG := hC9.ty
    have dO : ∀ u ∈ [73, 83, 85], u ≠ SaK.t ∧ u ∉ SaK.dp := by decide
    rcases hop with ⟨hop, hkey, hs1, hs2⟩ | hop | hop
    · -- Put
      rw [show (s.op == 1) = true by rw [hop]; rfl, BIf_true]
      refine drw_intro fun w10 f10 z10 => ?_
      have B10 := B9.fr f10 id
      refine load_int (i := 1) B10 rfl (load_int (i := 2) B10 rfl (load_int (i := 3) B10 rfl (mo_put _ (F13_call (F13_spec hkey (back_str ?_))))))
      refine chk (i := 2) B10 rfl (chk (i := 3) B10 rfl ?_)
      obtain ⟨sz, hsz⟩ := Int.eq_ofNat_of_zero_le (show 0 ≤ s.sz by omega)
      have hiv : (Value.iface 53 (.agg #[.int .i64 s.sz, .int .i64 s.tag])) = itV ⟨kst s.key, sz, s.tag⟩ := by rw [hsz]; rfl
      rw [hiv]
      have hst : stepC lru C (its T) s = putI C ⟨kst s.key, sz, s.tag⟩ (its T) := by unfold stepC; rw [if_pos hop, hsz]; rfl
      have okP := put_ok (i := ⟨kst s.key, sz, s.tag⟩) okT (show 0 < sz by omega) (show sz ≤ C by omega)
      refine NextT_enter (m_put _ _ _ w10) (F62_calls (F62_spec (i := ⟨kst s.key, sz, s.tag⟩) (hC9.fr0 f10) okT (show 0 < sz by omega) (show sz ≤ C by omega) fun w11 T' hC' e' hGT fG => back0 ?_))
      have TG := (hC9.fr0 f10).ty
      have B11 : Blk w11 n23 29 [.int .i64 s.op, .int .i64 s.key, .int .i64 s.sz, .int .i64 s.tag, .slice kq s.keys.length kc] := B10.fr fG fun hb => by have := TG _ _ _ hb B10; simp at this
      have b11 := (b9.fr f10 id).fr fG fun hb => by have := TG _ _ _ hb (b9.fr f10 id); simp at this
      refine chk (i := 2) B11 rfl (chk (i := 3) B11 rfl (chk (i := 1) B11 rfl ?_))
      have O11 := (hO9.fr0 f10).fr fG TG dO
      have f911 : Fr (fun b => G cb mb lb T b) w9 w11 := (f10.mono fun _ h => h.elim).trans fG fun b h => .inl h
      have f011 : Fr (fun _ => False) w w11 := f09.trans f911 fun b hb => .inr (hG b hb)
      have hG' : ∀ b, G cb mb lb T' b → w.heap.size ≤ b := fun b hb => by
        have := f09.size
        rcases hGT b hb with h | h
        · exact hG b h
        · omega
      have ok' : OkT C (its T') := by rw [e']; exact okP
      have b11 : Blk w11 n24 35 [.slice none ([] : List (Int × Int)).length 0, .slice none ([] : List Bool).length 0, .int .i64 0] := b11
      refine F7_J2_spec hC' ok' O11 (by omega) b11 hn24 (Sl.nil _ _ _) (Sl.nil _ _ _) (by omega) (op_l := 0) fun w12 rp' rc' hC12 O12 hrp' f12 => ?_
      have := fin w12 T' rp' rc' hC12 ok' (by rw [e', hst]) hG' (by
        have e : sayC lru C (its T) s = ⟨[], [], tot (its T')⟩ := by unfold sayC; rw [if_neg (by omega), hst, ← e']
        rw [e]; exact O12) (fun b hb => by
        have := f011.size
        rcases hrp' b hb with h | h
        · exact hrp b h
        · omega) (f011.trans f12 fun b hb => .inr (by
        rcases hb with h | h
        · omega
        · exact hrp b h))
      simpa using this
    · -- Get
      rw [show (s.op == 1) = false by rw [hop]; rfl, BIf_false, show (s.op == 2) = true by rw [hop]; rfl, BIf_true]
      refine drw_intro fun w10 f10 z10 => ?_
      have B10 := B9.fr f10 id
      refine load_slice (i := 4) B10 rfl (mo_get _ (F14_call (F14_spec (hint9.fr0 f10) hkb (by omega) fun w11 p11 c11 O11 f11 => back_slice ?_)))
      have kl : s.keys.length = (s.keys.map kst).length := by simp
      rw [kl] at O11 ⊢
      have f911 := f10.trans f11 fun _ h => h.elim
      have hC11 := hC9.fr0 f911
      refine NextT_enter (m_get _ _ _ _ w11) (F61_calls (F61_spec hC11 O11 (by simp; omega) fun w12 T' q hC12 e' hmem hq bQ f12 => back_slice ?_))
      have TG : Tys (fun b => b ∈ lb :: els T) w11 [73, 83, 85] := fun b u us hb hu => hC11.ty b u us (.inr (.inr hb)) hu
      have B12 : Blk w12 n23 29 [.int .i64 s.op, .int .i64 s.key, .int .i64 s.sz, .int .i64 s.tag, .slice kq s.keys.length kc] := (B9.fr f911 id).fr f12 fun hb => by have := TG _ _ _ hb (B9.fr f911 id); simp at this
      have b12 : Blk w12 n24 35 [.slice none 0 0, .slice none 0 0, .int .i64 0] := (b9.fr f911 id).fr f12 fun hb => by have := TG _ _ _ hb (b9.fr f911 id); simp at this
      rw [← kl]
      refine chk (i := 4) B12 rfl ?_
      have hst : stepC lru C (its T) s = touches lru (s.keys.map kst) (its T) := by unfold stepC; rw [if_neg (by omega), if_pos hop]
      have ok' : OkT C (its T') := by rw [e']; exact touches_ok _ okT hC2.nk
      have O12 := (hO9.fr0 f911).fr f12 TG dO
      have f012 : Fr (fun _ => False) w w12 := (f09.trans f911 fun _ h => h.elim).trans f12 fun b hb => .inr (hG b (.inr (.inr hb)))
      have gl := gets_len lru (s.keys.map kst) (its T)
      have vl : s.keys.length = (gets lru (s.keys.map kst) (its T)).length := by rw [gl]; simp
      rw [vl]
      refine F7_L2_spec hC12 ok' O12 (by omega) b12 hn24 bQ (by omega) (by omega) fun w13 rp' rc' hC13 O13 hrp' f13 => ?_
      have := fin w13 T' rp' rc' hC13 ok' (by rw [e', hst]) (fun b hb => hG b (G_sub (fun t ht => (hmem t).1 ht) hb)) (by
        have e : sayC lru C (its T) s = ⟨(gets lru (s.keys.map kst) (its T)).map itm, (gets lru (s.keys.map kst) (its T)).map Option.isSome, tot (its T')⟩ := by unfold sayC; rw [if_pos hop, hst, ← e']
        rw [e]; exact O13) (fun b hb => by
        have := f012.size
        rcases hrp' b hb with h | h
        · exact hrp b h
        · omega) (f012.trans f13 fun b hb => .inr (by
        rcases hb with h | h
        · omega
        · exact hrp b h))
      simpa using this
    · -- Remove
      rw [show (s.op == 1) = false by rw [hop]; rfl, BIf_false, show (s.op == 2) = false by rw [hop]; rfl, BIf_false, show (s.op == 3) = true by rw [hop]; rfl, BIf_true]
      refine drw_intro fun w10 f10 z10 => ?_
      have B10 := B9.fr f10 id
      refine load_slice (i := 4) B10 rfl (mo_rem _ (F14_call (F14_spec (hint9.fr0 f10) hkb (by omega) fun w11 p11 c11 O11 f11 => back_slice ?_)))
      have kl : s.keys.length = (s.keys.map kst).length := by simp
      rw [kl] at O11 ⊢
      have f911 := f10.trans f11 fun _ h => h.elim
      have hC11 := hC9.fr0 f911
      refine NextT_enter (m_rem _ _ _ _ w11) (F63_calls (F63_spec hC11 okT O11 (by simp; omega) fun w12 T' hC12 e' ok' hmem f12 => back0 ?_))
      have TG := hC11.ty
      have B12 : Blk w12 n23 29 [.int .i64 s.op, .int .i64 s.key, .int .i64 s.sz, .int .i64 s.tag, .slice kq s.keys.length kc] := (B9.fr f911 id).fr f12 fun hb => by have := TG _ _ _ hb (B9.fr f911 id); simp at this
      have b12 : Blk w12 n24 35 [.slice none 0 0, .slice none 0 0, .int .i64 0] := (b9.fr f911 id).fr f12 fun hb => by have := TG _ _ _ hb (b9.fr f911 id); simp at this
      rw [← kl]
      refine chk (i := 4) B12 rfl ?_
      have hst : stepC lru C (its T) s = rems (s.keys.map kst) (its T) := by unfold stepC; rw [if_neg (by omega), if_neg (by omega), if_pos hop]
      have O12 := (hO9.fr0 f911).fr f12 TG dO
      have f012 : Fr (fun _ => False) w w12 := (f09.trans f911 fun _ h => h.elim).trans f12 fun b hb => .inr (hG b hb)
      have b12 : Blk w12 n24 35 [.slice none ([] : List (Int × Int)).length 0, .slice none ([] : List Bool).length 0, .int .i64 0] := b12
      refine F7_J2_spec hC12 ok' O12 (by omega) b12 hn24 (Sl.nil _ _ _) (Sl.nil _ _ _) (by omega) (op_l := 0) fun w13 rp' rc' hC13 O13 hrp' f13 => ?_
      have := fin w13 T' rp' rc' hC13 ok' (by rw [e', hst]) (fun b hb => hG b (G_sub hmem hb)) (by
        have e : sayC lru C (its T) s = ⟨[], [], tot (its T')⟩ := by unfold sayC; rw [if_neg (by omega), hst, ← e']
        rw [e]; exact O13) (fun b hb => by
        have := f012.size
        rcases hrp' b hb with h | h
        · exact hrp b h
        · omega) (f012.trans f13 fun b hb => .inr (by
        rcases hb with h | h
        · omega
        · exact hrp b h))
      simpa using this
  · rw [decide_eq_false (show ¬ ((rl : Nat) : Int) < ((ss.length : Nat) : Int) by omega), BIf_false]
    have : rl = ss.length := by omega
    subst this
    rw [List.take_length] at hO2
    exact hk w2 rp rc hO2.sl f2
/-- CARun. -/
theorem F7_spec {C : Nat} {pol : Int} {p : Option Addr} {c : Nat} {ss : List CS} (hp : pol = 0 ∨ pol = 1 ∨ pol = 2) (hS : StA w p ss) (hok : ∀ s ∈ ss, OkC C s) (hl : ss.length < 200) (h1 : 1 ≤ C) (h2 : C < 1000)
    (hk : ∀ w' q d, Sl SaK w' q (ansC (decide (pol ≠ 0)) C [] ss) → Fr (fun _ => False) w w' → k (.slice q ss.length d) w') : F7 k ((C : Nat) : Int) pol p ss.length c w := by
  unfold F7
  obtain ⟨i43, g1, g2, g3, g4⟩ := inf43
  rcases hp with rfl | rfl | rfl
  · rw [show ((0 : Int) == 0) = true from rfl, BIf_true]
    refine F11_call (F11_spec fun w1 n hn bn f1 => back_any ?_)
    refine append1 (P := Tryd.prog) und41 g1 g2 g3 rfl g4 (Own.nil _ _) (v := optV n) rfl rfl (by omega) fun p2 c2 w2 f2 o2 hp2 z2 => ?_
    have f02 : Fr (fun _ => False) w w2 := f1.trans f2 fun b ⟨_, h, _⟩ => by cases h
    refine F7_J1_spec (o := some (n, 0)) o2 (fun x hx => ?_) (hS.fr0 f02) hok hl h1 h2 fun w3 q d hA f3 => hk w3 q d hA (f02.trans f3 fun _ h => h.elim)
    cases hx
    exact ⟨.inl rfl, bn.fr f2 fun ⟨_, h, _⟩ => by cases h⟩
  · rw [show ((1 : Int) == 0) = false from rfl, BIf_false, show ((1 : Int) == 1) = true from rfl, BIf_true]
    refine F11_call (F11_spec fun w1 n hn bn f1 => back_any ?_)
    refine append1 (P := Tryd.prog) und41 g1 g2 g3 rfl g4 (Own.nil _ _) (v := optV n) rfl rfl (by omega) fun p2 c2 w2 f2 o2 hp2 z2 => ?_
    have f02 : Fr (fun _ => False) w w2 := f1.trans f2 fun b ⟨_, h, _⟩ => by cases h
    refine F7_J1_spec (o := some (n, 1)) o2 (fun x hx => ?_) (hS.fr0 f02) hok hl h1 h2 fun w3 q d hA f3 => hk w3 q d hA (f02.trans f3 fun _ h => h.elim)
    cases hx
    exact ⟨.inr rfl, bn.fr f2 fun ⟨_, h, _⟩ => by cases h⟩
  · rw [show ((2 : Int) == 0) = false from rfl, BIf_false, show ((2 : Int) == 1) = false from rfl, BIf_false]
    exact F7_J1_spec (o := none) (Own.nil _ _) (fun x hx => by cases hx) hS hok hl h1 h2 hk
end
end Go.Proofs.YtmaejciimpnogaaDoor.E
