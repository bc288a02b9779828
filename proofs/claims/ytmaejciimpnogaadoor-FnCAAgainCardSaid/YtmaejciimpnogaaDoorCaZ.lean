/-
  FnCAAgain: the walk from its arguments on.
-/
import Derived.Test.YtmaejciimpnogaaDoorCaY
namespace Go.Proofs.YtmaejciimpnogaaDoor.E
open Go
set_option linter.unusedSimpArgs false
set_option linter.unusedVariables false
set_option maxRecDepth 100000
set_option maxHeartbeats 16000000

abbrev SQ := CS × Option Addr
def StQ : Rk SQ := ⟨29, 5, fun _ g x => ∃ c, g 0 = some (.int .i64 x.1.op) ∧ g 1 = some (.int .i64 x.1.key) ∧ g 2 = some (.int .i64 x.1.sz) ∧ g 3 = some (.int .i64 x.1.tag) ∧ g 4 = some (.slice x.2 x.1.keys.length c), [],
  fun h ⟨c, h0, h1, h2, h3, h4⟩ => ⟨c, by rw [← h 0 (by decide)]; exact h0, by rw [← h 1 (by decide)]; exact h1, by rw [← h 2 (by decide)]; exact h2, by rw [← h 3 (by decide)]; exact h3, by rw [← h 4 (by decide)]; exact h4⟩, fun _ _ h => h⟩
/-- Whose keys lie where. -/
def KyQ (w0 w : World) (ap : Option Addr) (X : List SQ) : Prop := ∀ x ∈ X, Ints w0 x.2 x.1.keys ∨ ∃ b z, x.2 = some ⟨b, 0, none⟩ ∧ x.1.keys = [z] ∧ Blk w b 3 [.int .i64 z] ∧ ¬ bl ap b
section
variable {w w0 : World} {k : Value → W}
theorem KyQ.fr {w' : World} {S : Nat → Prop} {ap : Option Addr} {X : List SQ} (h : KyQ w0 w ap X) (f : Fr S w w') (hS : ∀ b u us, S b → Blk w b u us → u ≠ 3) : KyQ w0 w' ap X := fun x hx => by
  rcases h x hx with h | ⟨b, z, h1, h2, h3, h4⟩
  · exact .inl h
  · exact .inr ⟨b, z, h1, h2, h3.fr f fun hs => hS _ _ _ hs h3 rfl, h4⟩
theorem KyQ.fr0 {w' : World} {ap : Option Addr} {X : List SQ} (h : KyQ w0 w ap X) (f : Fr (fun _ => False) w w') : KyQ w0 w' ap X := h.fr f fun _ _ _ h => h.elim
theorem stA_ofQ {p ap : Option Addr} {X : List SQ} {ss : List CS} (h : Sl StQ w p X) (hK : KyQ w0 w ap X) (f : Fr (fun _ => False) w0 w) (e : X.map (·.1) = ss) : StA w p ss := fun i s hs => by
  subst e
  rw [List.getElem?_map] at hs
  obtain ⟨x, hx, rfl⟩ := Option.map_eq_some_iff.1 hs
  obtain ⟨q, o, rfl, kc, h0, h1, h2, h3, h4⟩ := h.get hx
  refine ⟨⟨q, o, none⟩, x.2, kc, rfl, ?_, ?_, ?_, ?_, ?_, ?_⟩
  · rw [add_mk, add_mk]; exact h0
  · rw [add_mk, add_mk]; exact h1
  · rw [add_mk, add_mk]; exact h2
  · rw [add_mk, add_mk]; exact h3
  · rw [add_mk, add_mk]; exact h4
  · rcases hK x (List.mem_of_getElem? hx) with h5 | ⟨b, z, e1, e2, hb, _⟩
    · exact h5.fr0 f
    · intro j y hy
      rw [e2] at hy
      have hj : j < 1 := (List.getElem?_eq_some_iff.1 hy).1
      obtain rfl : j = 0 := by omega
      cases hy
      exact ⟨_, e1, by rw [add_mk, hb.cell]; rfl⟩
theorem appQ {op : Option Addr} {ol oc : Nat} {X : List SQ} {s : CS} {kq : Option Addr} {kc : Nat} {f : Option Addr → Nat → Nat → W} (O : SlO StQ w op ol oc X) (hl : ol < 1000)
    (hk : ∀ w' p' c', SlO StQ w' p' (ol + 1) c' (X ++ [(s, kq)]) → (∀ b, bl p' b → bl op b ∨ w.heap.size ≤ b) → Fr (fun b => bl op b) w w' → f p' (ol + 1) c' w') :
    RawT Tryd.prog (Instr.buildSlice 22 1 [(0, .agg #[.int .i64 s.op, .int .i64 s.key, .int .i64 s.sz, .int .i64 s.tag, .slice kq s.keys.length kc])].toArray) (.s (.one .slice)) (fun a m d => NextT Tryd.prog (builtin .append #[22, 22] 22 [false, false].toArray [.slice op ol oc, .slice a m d].toArray) (.s (.one .slice)) f) w := by
  obtain ⟨i29, g1, g2, g3, g4⟩ := inf29
  refine build_intro und22 g1 g2 (by omega) (by omega) (fill29_1 _ _ _ _ _ _ _ i29 g3) fun w1 f1 b1 z1 => ?_
  refine SlO.append (K := StQ) und22 g1 g2 g3 (by decide) rfl g4 (by decide) (O.fr0 f1) b1 (ys := [(s, kq)]) (Rows.one (K := StQ) ⟨kc, rfl, rfl, rfl, rfl, rfl⟩) rfl rfl (fun u hu => ?_) (by omega) fun p' c' w2 f2 O2 hp2 => ?_
  · simp only [List.mem_cons, List.not_mem_nil, or_false] at hu
    rcases hu with rfl | rfl | rfl | rfl | rfl <;> rfl
  · refine hk w2 p' c' O2 (fun b hb => ?_) ((f1.mono fun _ h => h.elim).trans f2 fun b hb => .inl hb)
    rcases hp2 b hb with h | h
    · exact .inl h
    · exact .inr (by omega)
theorem own_ty {ap : Option Addr} {al ac : Nat} {vs : List Value} (h : Own w 3 ap al ac vs) : Tys (fun b => bl ap b) w [3] := fun b u us hb hu => by
  obtain ⟨us', h'⟩ := h.blk hb
  rw [(hu.unique h').1]; decide
theorem F3_J1_spec {ag : Int → Int → Option Addr → Nat → Nat → Option Addr → Nat → Nat → Option Addr → Nat → Nat → Option Addr → Nat → Nat → Int → Int → W} {cp pl x : Int} {p0 sp op ap : Option Addr} {l0 c0 sl sc ol oc al ac t : Nat} {X : List SQ} {vs : List Value}
    (O : SlO StQ w op ol oc X) (A : Own w 3 ap al ac vs) (K : KyQ w0 w ap X) (h0 : 0 < ol) (hl : ol < 1000) (hal : al < 1000) (ht : t < 1000)
    (hk : ∀ w' ap' ac', SlO StQ w' op ol oc X → Own w' 3 ap' (al + 1) ac' (vs ++ [.int .i64 ((ol - 1 : Nat) : Int)]) → KyQ w0 w' ap' X → (∀ b, bl ap' b → bl ap b ∨ w.heap.size ≤ b) → Fr (fun b => bl ap b) w w' → ag cp pl p0 l0 c0 op ol oc ap' (al + 1) ac' sp sl sc x (((t + 1 : Nat)) : Int) w') :
    F3_J1 k ag cp pl p0 l0 c0 op ol oc ap al ac sp sl sc x ((t : Nat) : Int) w := by
  unfold F3_J1
  obtain ⟨i3, a1, a2, a3, a4⟩ := inf3
  rw [subI_i64 (by omega) (by omega), show ((ol : Nat) : Int) - 1 = ((ol - 1 : Nat) : Int) by omega]
  refine append1 (P := Tryd.prog) und25 a1 a2 a3 rfl a4 A (v := .int .i64 ((ol - 1 : Nat) : Int)) rfl rfl (by omega) fun ap' ac' w2 f2 A2 hp2 z2 => ?_
  rw [addI_i64 (by omega) (by omega), show ((t : Nat) : Int) + 1 = ((t + 1 : Nat) : Int) by omega]
  refine hk w2 ap' ac' (O.fr f2 (own_ty A) (by decide)) A2 (fun y hy => ?_) hp2 f2
  rcases K y hy with h | ⟨b, z, h1, h2, h3, h4⟩
  · exact .inl h
  · refine .inr ⟨b, z, h1, h2, h3.fr f2 h4, fun hb => ?_⟩
    rcases hp2 b hb with h | h
    · exact h4 h
    · have := h3.lt; omega
/-- The loop that picks the answers. -/
theorem F3_L2_spec {ap bp : Option Addr} {ac aac cc : Nat} {aq : Option Addr} {ss : List CS} {C : Nat} {lru : Bool} (hA : Sl SaK w ap (ansC lru C [] ss)) (hB : Sl SaK w bp (ansC lru C [] (ags ss))) (hat : Own w 3 aq ss.length aac ((List.range ss.length).map fun i => Value.int .i64 ((atP ss i : Nat) : Int))) (hok : ∀ s ∈ ss, OkC C s) (hC : C < 1000) (hl : ss.length < 100)
    (hk : ∀ w', Fr (fun _ => False) w w' → k (.bool true) w') :
    Loop [.slice, .slice, .slice, .slice, (.int .i64), (.int .i64)] (F3_L2 k) ap ss.length ac bp (ags ss).length cc none 0 0 aq ss.length aac ((ss.length : Nat) : Int) 0 w := by
  have hbl := ags_len ss
  refine F3_L2_rule (I := fun a' al' ac' b' bl' bc' cp cl cc' q' ql qc x j w' => a' = ap ∧ al' = ss.length ∧ b' = bp ∧ bl' = (ags ss).length ∧ q' = aq ∧ ql = ss.length ∧ x = ((ss.length : Nat) : Int) ∧ ∃ t : Nat, j = ((t : Nat) : Int) ∧ t ≤ ss.length ∧ cl = t ∧ SlO SaK w' cp cl cc' ((ansC lru C [] ss).take t) ∧ (∀ b, bl cp b → w.heap.size ≤ b) ∧ Fr (fun _ => False) w w')
    (μ := fun a' al' ac' b' bl' bc' cp cl cc' q' ql qc x j w' => ss.length - j.toNat) ?_ ⟨rfl, rfl, rfl, rfl, rfl, rfl, rfl, 0, rfl, Nat.zero_le _, rfl, SlO.nil _ _, (fun b ⟨_, h, _⟩ => by cases h), Fr.refl _ _⟩
  rintro a' al' ac' b' bl' bc' cp cl cc' q' ql qc _ j w1 ⟨y1, y2, y3, y4, y5, y6, rfl, t, rfl, ht, rfl, O, hcp, f1⟩
  obtain rfl := y1.symm
  obtain rfl := y3.symm
  obtain rfl := y5.symm
  unfold F3_L2
  rw [y2, y4, y6]
  by_cases hlt : cl < ss.length
  · rw [decide_eq_true (show ((cl : Nat) : Int) < ((ss.length : Nat) : Int) by omega), BIf_true]
    have at1 := hat.fr f1 fun _ _ => id
    obtain ⟨q, rest, rfl, _⟩ := at1.get (by omega)
    have hcell : w1.cell? ⟨q, cl, none⟩ = some (.int .i64 ((atP ss cl : Nat) : Int)) := by
      rw [at1.cell hlt, List.getElem?_map, List.getElem?_range hlt]; rfl
    obtain ⟨hans, hai⟩ := ags_at (lru := lru) (L := []) hok hlt
    have hal := ansC_len lru C ss []
    have hx : (ansC lru C [] ss)[cl]? = some (ansC lru C [] ss)[cl] := List.getElem?_eq_getElem (by omega)
    generalize (ansC lru C [] ss)[cl]'(by omega) = x at hx
    rw [hx] at hans
    rw [NN_mk, Req_iff, Int.toNat_natCast, add_mk, Nat.zero_add]
    refine ⟨by omega, LoadT_int.2 ⟨_, hcell, ?_⟩⟩
    obtain ⟨bq, bo, rfl, ip, ic, hp, hc, g0, g1, g2, gI, gH⟩ := (hB.fr0 f1).get hans
    rw [NN_mk, Req_iff, Int.toNat_natCast]
    simp only [add_mk]
    refine ⟨by omega, LoadT_slice.2 ⟨_, _, _, g0, LoadT_slice.2 ⟨_, _, _, g1, LoadT_int.2 ⟨_, g2, ?_⟩⟩⟩⟩
    obtain ⟨i35, k1, k2, k3, k4⟩ := inf35
    refine build_intro und30 k1 k2 (by omega) (by omega) (fill35 _ _ _ _ _ _ _ i35 k3) fun w2 f2 b2 z2 => ?_
    refine SlO.append (K := SaK) und30 k1 k2 k3 (by decide) rfl k4 (by decide) (O.fr0 f2) b2 (ys := [x]) (Rows.one (K := SaK) ⟨ip, ic, hp, hc, rfl, rfl, rfl, gI.fr0 f2, gH.fr0 f2⟩) rfl rfl (fun u hu => ?_) (by omega) fun cp' cc2 w3 f3 O3 hp3 => ?_
    · simp only [List.mem_cons, List.not_mem_nil, or_false] at hu
      rcases hu with rfl | rfl | rfl <;> rfl
    rw [addI_i64 (by omega) (by omega)]
    have s1 := f1.size
    refine ⟨⟨by trivial, by trivial, by trivial, by trivial, by trivial, by trivial, by trivial, cl + 1, by omega, hlt, by trivial, ?_, fun b hb => ?_, (f1.trans f2 fun _ h => h.elim).trans f3 fun b hb => .inr (hcp b hb)⟩, ?_⟩
    · rw [take_snoc hx]; exact O3
    · rcases hp3 b hb with h | h
      · exact hcp b h
      · omega
    · show ss.length - (((cl : Nat) : Int) + 1).toNat < ss.length - ((cl : Nat) : Int).toNat
      omega
  · rw [decide_eq_false (show ¬ ((cl : Nat) : Int) < ((ss.length : Nat) : Int) by omega), BIf_false]
    have : cl = ss.length := by omega
    subst this
    have hal := ansC_len lru C ss []
    rw [List.take_of_length_le (by omega)] at O
    refine F8_call (F8_spec fun w2 f2 => back_bool ?_)
    rw [BIf_true]
    have sm := ans_small (lru := lru) ss [] hok (OkT.nil hC) List.nodup_nil
    generalize ansC lru C [] ss = X at *
    have hm : X.map (scS 1) = X := by
      have : scS 1 = id := by funext s; exact scS_one s
      rw [this, List.map_id]
    refine F9_call ?_
    have := F9_spec (k := fun v => Back (.s (.one .bool)) (fun b68 => k (.bool b68)) (.returned v)) (n := 1) (c := ac') (d := cc') ((hA.fr0 f1).fr0 f2) (by rw [hm]; exact O.sl.fr0 f2) (by decide) sm (by omega) fun w3 f3 => back_bool (hk w3 ((f1.trans f2 fun _ h => h.elim).trans f3 fun _ h => h.elim))
    rw [hm, hal] at this
    exact this
/-- FnCAAgain. -/
theorem F3_spec {cap pol : Int} {p : Option Addr} {c : Nat} {ss : List CS} (hp : 0 ≤ pol ∧ pol < 256) (hS : StA w p ss) (hk : ∀ w', Fr (fun _ => False) w w' → k (.bool true) w') :
    F3 k cap pol p ss.length c w := by
  unfold F3
  refine F5_call (F5_spec hS fun w1 b hb f1 => back_bool ?_)
  refine BIf_intro (fun _ => hk w1 f1) fun h => ?_
  have hl := hb (by simpa using h)
  refine F6_call (F6_spec (hS.fr0 f1) hl fun w2 b2 hb2 f2 => back_bool ?_)
  have f02 := f1.trans f2 fun _ h => h.elim
  refine BIf_intro (fun _ => hk w2 f02) fun h2 => ?_
  obtain ⟨h1, h60, hl30, hl0, hok⟩ := hb2 (by simpa using h2)
  obtain ⟨C, rfl⟩ := Int.eq_ofNat_of_zero_le (show 0 ≤ cap by omega)
  rw [Int.toNat_natCast] at hok
  refine F3_L1_rule (I := fun cp pl p0 l0 c0 op ol oc ap al ac p' l' c' x i w' => cp = ((C : Nat) : Int) ∧ pl = pol ∧ p0 = p ∧ l0 = ss.length ∧ p' = p ∧ l' = ss.length ∧ x = ((ss.length : Nat) : Int) ∧ ∃ (t : Nat) (X : List SQ), i = ((t : Nat) : Int) ∧ t ≤ ss.length ∧ al = t ∧ X.map (·.1) = ags (ss.take t) ∧ SlO StQ w' op ol oc X ∧ Own w' 3 ap al ac ((List.range t).map fun i => Value.int .i64 ((atP ss i : Nat) : Int)) ∧ KyQ w w' ap X ∧ (∀ b, bl op b → w.heap.size ≤ b) ∧ (∀ b, bl ap b → w.heap.size ≤ b) ∧ Fr (fun _ => False) w w')
    (μ := fun cp pl p0 l0 c0 op ol oc ap al ac p' l' c' x i w' => ss.length - i.toNat) ?_ ⟨rfl, rfl, rfl, rfl, rfl, rfl, rfl, 0, [], rfl, Nat.zero_le _, rfl, rfl, SlO.nil _ _, Own.nil _ _, (fun x hx => by cases hx), (fun b ⟨_, h, _⟩ => by cases h), (fun b ⟨_, h, _⟩ => by cases h), f02⟩
  rintro _ pl p0 l0 c0 op ol oc ap al ac p' l' c' _ i w3 ⟨rfl, rfl, y1, y2, y3, y4, rfl, t, X, rfl, ht, rfl, eX, O, A, K, hop, hap, f3⟩
  obtain rfl := y1.symm
  obtain rfl := y3.symm
  unfold F3_L1
  rw [y2, y4]
  have hol := O.len
  have hol2 : ol = (ags (ss.take al)).length := by rw [← eX, List.length_map]; exact hol
  have hagl := ags_len (ss.take al)
  have htl : (ss.take al).length ≤ ss.length := by simp; omega
  by_cases hlt : al < ss.length
  · rw [decide_eq_true (show ((al : Nat) : Int) < ((ss.length : Nat) : Int) by omega), BIf_true]
    have hx : ss[al]? = some ss[al] := List.getElem?_eq_getElem hlt
    generalize ss[al] = s at hx
    obtain ⟨a, kq, kc, rfl, c0', c1, c2, c3, c4, hint⟩ := hS.at_ f3 hx
    rw [NN_mk, Req_iff, Int.toNat_natCast]
    refine ⟨by omega, LoadT_int.2 ⟨_, c0', LoadT_int.2 ⟨_, c1, LoadT_int.2 ⟨_, c2, LoadT_int.2 ⟨_, c3, LoadT_slice.2 ⟨_, _, _, c4, ?_⟩⟩⟩⟩⟩⟩
    refine new_intro fun n21 w4 e4 b4 f4 z4 => ?_
    refine store_intro (i := 0) b4 (by simp) rfl fun w5 b5 f5 z5 => store_intro (i := 1) b5 (by simp) rfl fun w6 b6 f6 z6 => store_intro (i := 2) b6 (by simp) rfl fun w7 b7 f7 z7 => store_intro (i := 3) b7 (by simp) rfl fun w8 b8 f8 z8 => store_intro (i := 4) b8 (by simp) rfl fun w9 b9 f9 z9 => ?_
    have B9 : Blk w9 n21 29 [.int .i64 s.op, .int .i64 s.key, .int .i64 s.sz, .int .i64 s.tag, .slice kq s.keys.length kc] := b9
    have f39 : Fr (fun _ => False) w3 w9 := ((((f4.mono (S' := fun b => b = n21) fun _ h => h.elim).trans f5 fun _ h => .inl h).trans f6 fun _ h => .inl h).trans f7 fun _ h => .inl h).trans f8 (fun _ h => .inl h) |>.trans f9 (fun _ h => .inl h) |>.mono fun b h => .inr (by have h : b = n21 := h; omega)
    have sz3 := f3.size
    have sz39 := f39.size
    clear b4 b5 b6 b7 b8 b9 f4 f5 f6 f7 f8 f9
    refine load_int (i := 0) B9 rfl (load_int (i := 1) B9 rfl (load_int (i := 2) B9 rfl (load_int (i := 3) B9 rfl (load_slice (i := 4) B9 rfl ?_))))
    have O9 := O.fr0 f39
    refine appQ O9 (by omega) fun w10 op1 oc1 O10 hop10 f10 => ?_
    have B10 : Blk w10 n21 29 _ := B9.fr f10 fun hb => by have := O.lt hb; omega
    have T9 := O9.ty
    have A10 := (A.fr f39 fun _ _ => id).fr f10 fun b hb hx => by
      obtain ⟨us, hu⟩ := (A.fr f39 fun _ _ => id).blk hb
      have := T9 b _ _ hx hu
      simp [StQ] at this
    have K10 : KyQ w w10 ap (X ++ [(s, kq)]) := fun y hy => by
      rcases List.mem_append.1 hy with hy | hy
      · exact ((K.fr0 f39).fr f10 fun b u us hb hu => by have := T9 b _ _ hb hu; simp [StQ] at this; subst this; decide) y hy
      · rw [List.mem_singleton] at hy
        subst hy; exact .inl hint
    have f310 : Fr (fun b => bl op b) w3 w10 := (f39.mono fun _ h => h.elim).trans f10 fun b hb => .inl hb
    have f010 : Fr (fun _ => False) w w10 := f3.trans f310 fun b hb => .inr (hop b hb)
    have sz10 := f310.size
    have hop1 : ∀ b, bl op1 b → w.heap.size ≤ b := fun b hb => by
      rcases hop10 b hb with h | h
      · exact hop b h
      · omega
    refine load_int (i := 0) B10 rfl ?_
    have eA : ∀ (X' : List SQ), X'.map (·.1) = ags (ss.take (al + 1)) → ∀ {ol'}, ol' = X'.length → ((List.range al).map fun i => Value.int .i64 ((atP ss i : Nat) : Int)) ++ [.int .i64 ((ol' - 1 : Nat) : Int)] = (List.range (al + 1)).map fun i => Value.int .i64 ((atP ss i : Nat) : Int) := fun X' h {ol'} h' => by
      rw [List.range_succ, List.map_append]
      congr 1
      show [Value.int .i64 ((ol' - 1 : Nat) : Int)] = [Value.int .i64 ((atP ss al : Nat) : Int)]
      unfold atP
      rw [← h, List.length_map, ← h']
    have eags : ags (ss.take (al + 1)) = ags (ss.take al) ++ agS s := by
      rw [take_snoc hx, ags_app]
      show _ ++ (agS s ++ []) = _
      rw [List.append_nil]
    by_cases hop1' : s.op = 1
    · rw [show (s.op == 1) = true by rw [hop1']; rfl, BIf_true]
      refine load_int (i := 1) B10 rfl ?_
      obtain ⟨i3, a1, a2, a3, a4⟩ := inf3
      obtain ⟨i29, g1, g2, g3, g4⟩ := inf29
      refine build_intro und25 a1 a2 (by omega) (by omega) (fill3_1 _ i3 a3) fun w11 f11 b11 z11 => ?_
      have B11 := B10.fr f11 id
      refine load_int (i := 0) B11 rfl (load_int (i := 1) B11 rfl (load_int (i := 2) B11 rfl (load_int (i := 3) B11 rfl (load_slice (i := 4) B11 rfl ?_))))
      refine build_intro und22 g1 g2 (by omega) (by omega) (fill29_2 _ _ _ _ _ _ _ _ _ _ _ _ _ _ i29 g3) fun w12 f12 b12 z12 => ?_
      have f1012 := f11.trans f12 fun _ h => h.elim
      have b11' := b11.fr f12 id
      have O12 := O10.fr0 f1012
      have T12 := O12.ty
      refine SlO.append (K := StQ) und22 g1 g2 g3 (by decide) rfl g4 (by decide) O12 b12 (ys := [(rmS s.key, some ⟨w10.heap.size, 0, none⟩), (s, kq)]) (fun j y hy => ?_) rfl rfl (fun u hu => ?_) (by omega) fun op2 oc2 w13 f13 O13 hop13 => ?_
      · have hj : j < 2 := (List.getElem?_eq_some_iff.1 hy).1
        have : j = 0 ∨ j = 1 := by omega
        rcases this with rfl | rfl
        · cases hy; exact ⟨1, rfl, rfl, rfl, rfl, rfl⟩
        · cases hy; exact ⟨kc, rfl, rfl, rfl, rfl, rfl⟩
      · simp only [List.mem_cons, List.not_mem_nil, or_false] at hu
        rcases hu with rfl | rfl | rfl | rfl | rfl | rfl | rfl | rfl | rfl | rfl <;> rfl
      have A13 := (A10.fr f1012 fun _ _ => id).fr f13 fun b hb hx => by
        obtain ⟨us, hu⟩ := (A10.fr f1012 fun _ _ => id).blk hb
        have := T12 b _ _ hx hu
        simp [StQ] at this
      have nS : ∀ b u us, bl op1 b → Blk w12 b u us → u ≠ 3 := fun b u us hb hu => by have := T12 b _ _ hb hu; simp [StQ] at this; subst this; decide
      have K13 : KyQ w w13 ap (X ++ [(s, kq)] ++ [(rmS s.key, some ⟨w10.heap.size, 0, none⟩), (s, kq)]) := fun y hy => by
        rcases List.mem_append.1 hy with hy | hy
        · exact ((K10.fr0 f1012).fr f13 nS) y hy
        · simp only [List.mem_cons, List.not_mem_nil, or_false] at hy
          rcases hy with rfl | rfl
          · refine .inr ⟨w10.heap.size, s.key, rfl, rfl, b11'.fr f13 fun hb => nS _ _ _ hb b11' rfl, fun hb => ?_⟩
            have := A10.lt hb; omega
          · exact .inl hint
      have e3 : (X ++ [(s, kq)] ++ [(rmS s.key, (some ⟨w10.heap.size, 0, none⟩ : Option Addr)), (s, kq)]).map (·.1) = ags (ss.take (al + 1)) := by
        rw [eags, List.map_append, List.map_append, eX]
        unfold agS; rw [if_pos hop1']; simp
      have ol13 := O13.len
      have f013 : Fr (fun _ => False) w w13 := (f010.trans f1012 fun _ h => h.elim).trans f13 fun b hb => .inr (hop1 b hb)
      have s013 := f013.size
      have s1012 := f1012.size
      refine F3_J1_spec O13 A13 K13 (by omega) (by omega) (by omega) (by omega) fun w14 ap' ac' O14 A14 K14 hap' f14 => ?_
      rw [eA _ e3 ol13] at A14
      refine ⟨⟨rfl, rfl, rfl, rfl, rfl, rfl, rfl, al + 1, _, rfl, hlt, rfl, e3, O14, A14, K14, fun b hb => ?_, fun b hb => ?_, f013.trans f14 fun b hb => .inr (hap b hb)⟩, ?_⟩
      · rcases hop13 b hb with h | h
        · exact hop1 b h
        · have := f010.size; omega
      · rcases hap' b hb with h | h
        · exact hap b h
        · omega
      · show ss.length - (((al + 1 : Nat)) : Int).toNat < ss.length - ((al : Nat) : Int).toNat
        omega
    · rw [show (s.op == 1) = false by rw [beq_eq_false_iff_ne]; exact hop1', BIf_false]
      have e3 : (X ++ [(s, kq)]).map (·.1) = ags (ss.take (al + 1)) := by
        rw [eags, List.map_append, eX]
        unfold agS; rw [if_neg hop1']; simp
      have ol10 := O10.len
      have s010 := f010.size
      refine F3_J1_spec O10 A10 K10 (by omega) (by omega) (by omega) (by omega) fun w14 ap' ac' O14 A14 K14 hap' f14 => ?_
      rw [eA _ e3 ol10] at A14
      refine ⟨⟨rfl, rfl, rfl, rfl, rfl, rfl, rfl, al + 1, _, rfl, hlt, rfl, e3, O14, A14, K14, hop1, fun b hb => ?_, f010.trans f14 fun b hb => .inr (hap b hb)⟩, ?_⟩
      · rcases hap' b hb with h | h
        · exact hap b h
        · omega
      · show ss.length - (((al + 1 : Nat)) : Int).toNat < ss.length - ((al : Nat) : Int).toNat
        omega
  · rw [decide_eq_false (show ¬ ((al : Nat) : Int) < ((ss.length : Nat) : Int) by omega), BIf_false]
    have : al = ss.length := by omega
    subst this
    rw [List.take_length] at eX hol2 hagl
    refine Req_iff.2 ⟨by decide, bind_intro ?_⟩
    have hp3 := pol_of hp
    refine F7_call (F7_spec hp3 (hS.fr0 f3) hok (by omega) (by omega) (by omega) fun w5 q5 d5 hA f5 => back_slice ?_)
    have f05 := f3.trans f5 fun _ h => h.elim
    rw [hol2]
    refine F7_call (F7_spec hp3 (stA_ofQ (O.sl.fr0 f5) (K.fr0 f5) f05 eX) (okC_ags hok) (by omega) (by omega) (by omega) fun w6 q6 d6 hB f6 => back_slice ?_)
    rw [show ((((ags ss).length : Nat) : Int) != (((ags ss).length : Nat) : Int)) = false by simp, BIf_false]
    exact F3_L2_spec (hA.fr0 f6) hB ((A.fr f5 fun _ _ => id).fr f6 fun _ _ => id) hok (by omega) (by omega) fun w7 f7 => hk w7 ((f05.trans f6 fun _ h => h.elim).trans f7 fun _ h => h.elim)
end
end Go.Proofs.YtmaejciimpnogaaDoor.E
