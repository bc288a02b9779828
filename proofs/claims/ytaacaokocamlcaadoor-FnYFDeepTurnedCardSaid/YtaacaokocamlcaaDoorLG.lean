/-
  FnYFDeepAgain, walked.
-/
import Derived.Test.YtaacaokocamlcaaDoorLF
namespace Go.Proofs.YtaacaokocamlcaaDoor.E
open Go
set_option linter.unusedSimpArgs false
set_option linter.unusedVariables false
set_option maxRecDepth 100000
set_option maxHeartbeats 8000000

theorem F4_J1_spec {k : Value → W} {w : World} {lp tp ap : Option Addr} {ll lc tc ac : Nat} {T : List Itm} {ans : List An} (hT : Sl ItK w tp T) (hTl : T.length < 1000) (hA : Sl AnK w ap ans) (hl : ll < 1000) (hlen : ans.length = ll + 3)
    (g0 : ans[ll]? = some ⟨[], T.length, false⟩) (g1 : ans[ll + 1]? = some ⟨T, 0, false⟩) (g2 : ans[ll + 2]? = some ⟨[], T.length, false⟩)
    (hk : ∀ w', Fr (fun _ => False) w w' → k (.bool true) w') : F4_J1 k lp ll lc tp T.length tc ap ans.length ac w := by
  unfold F4_J1
  refine drw_intro fun w1 f1 z1 => ?_
  have e3 : addI .i64 ((ll : Nat) : Int) 3 = ((ll + 3 : Nat) : Int) := addI_i64 (by omega) (by omega)
  have e2 : addI .i64 ((ll : Nat) : Int) 2 = ((ll + 2 : Nat) : Int) := addI_i64 (by omega) (by omega)
  have e1 : addI .i64 ((ll : Nat) : Int) 1 = ((ll + 1 : Nat) : Int) := addI_i64 (by omega) (by omega)
  rw [e3, e2, e1, show (((ans.length : Nat) : Int) == ((ll + 3 : Nat) : Int)) = true by rw [beq_iff_eq, hlen]]
  have hA1 := hA.fr0 f1
  obtain ⟨q, o, rfl, pi, ci, a0, a1, a2, a3⟩ := hA1.get g0
  obtain ⟨q', o', hq, pj, cj, b0, b1, b2, b3⟩ := hA1.get g1
  cases hq
  obtain ⟨q', o', hq, pk, ck, c0, c1, c2, c3⟩ := hA1.get g2
  cases hq
  simp only [BIf_true, NN_mk, Int.toNat_natCast, add_mk]
  refine ⟨by omega, LoadT_int.2 ⟨_, a1, ?_⟩⟩
  rw [wrap_u64 (by omega) (by omega), show (((T.length : Nat) : Int) == ((T.length : Nat) : Int)) = true by simp]
  simp only [BIf_true, NN_mk, Int.toNat_natCast, add_mk]
  refine ⟨by omega, LoadT_int.2 ⟨_, c1, ?_⟩⟩
  refine ⟨by omega, LoadT_int.2 ⟨_, a1, ?_⟩⟩
  rw [show (((T.length : Nat) : Int) == ((T.length : Nat) : Int)) = true by simp]
  simp only [BIf_true, NN_mk, Int.toNat_natCast, add_mk]
  refine ⟨by omega, LoadT_slice.2 ⟨_, _, _, b0, ?_⟩⟩
  refine F11_call (F11_spec (xs := T) b3 (hT.fr0 f1) (by omega) fun w2 f2 => back_bool ?_)
  exact ⟨(f2.cell (cell_lt a1) id).trans a1, (f2.cell (cell_lt c1) id).trans c1, (f2.cell (cell_lt a1) id).trans a1, hk w2 (f1.trans f2 fun _ h => h.elim)⟩
theorem turn_length : ∀ L : List Itm, (turn L).length ≤ L.length
  | [] => Nat.le_refl _
  | y :: L => by
    have := turn_length L
    unfold turn
    split
    · simp only [List.length_cons]; omega
    · simp only [List.length_append, List.length_cons, List.length_nil]; omega
theorem F4_spec {k : Value → W} {w : World} {size : Int} {p : Option Addr} {c : Nat} {xs : List Itm} (Ta : Tabs w) (h0 : 0 ≤ size) (hI : ItA w p xs) (hk : ∀ w', Fr (fun _ => False) w w' → k (.bool true) w') : F4 k size p xs.length c w := by
  unfold F4
  refine BIf_intro (fun _ => hk w (Fr.refl _ _)) fun hb => ?_
  have hxl : ¬ ((xs.length : Nat) : Int) > 2147483647 := of_decide_eq_false hb
  refine F7_call (F7_spec h0 fun B hB => back_int ?_)
  refine F13_call (F13_spec hB (back_int ?_))
  refine F12_call (F12_spec hB hI (by omega) fun op ol oc w1 hO hop f1 => back_slice ?_)
  have hp8 : 9 < 2 ^ B := by rcases hB with rfl | rfl | rfl | rfl <;> decide
  have hl0 : ((xs.take 60).map (msk B)).length ≤ 60 := by rw [List.length_map, List.length_take]; omega
  have hlt0 : ∀ x ∈ (xs.take 60).map (msk B), x.1 < 2 ^ B := fun x hx => by
    obtain ⟨y, _, rfl⟩ := List.mem_map.1 hx
    exact Nat.mod_lt _ (Nat.pow_pos (by decide))
  have holen := hO.len
  generalize (xs.take 60).map (msk B) = L0 at *
  refine bld_it (x := (9, 3)) rfl fun m w2 e2 b2 s2 f2 z2 => ?_
  refine app_it (hO.fr0 f2) b2 (by omega) fun lp lc w3 f3 hL hlp => ?_
  have hz1 := f1.size
  have f03 : Fr (fun _ => False) w w3 := (f1.trans f2 fun _ h => h.elim).trans f3 fun b hb => .inr (hop b hb)
  have hlt : ∀ x ∈ L0 ++ [(9, 3)], x.1 < 2 ^ B := fun x hx => by
    rcases List.mem_append.1 hx with hx | hx
    · exact hlt0 x hx
    · rw [List.mem_singleton] at hx; subst hx; exact hp8
  have hLl : ol + 1 = (L0 ++ [((9, 3) : Itm)]).length := by simp; omega
  have hLs : (L0 ++ [((9, 3) : Itm)]).length ≤ 61 := by simp; omega
  rw [hLl] at hL ⊢
  generalize L0 ++ [((9, 3) : Itm)] = L at *
  refine F14_call (F14_spec hL.sl (by omega) fun tp tl tc w4 hT htp f4 => back_slice ?_)
  have f04 := f03.trans f4 fun _ h => h.elim
  have hL4 := hL.fr0 f4
  have hle := hL4.le
  have htl := hT.len
  subst htl
  have hTl := turn_length L
  refine bld_ky (x := 0) rfl fun mk w5 e5 b5 s5 f5 z5 => ?_
  refine new_intro fun n w6 e6 b6 f6 z6 => ?_
  refine store_intro (i := 0) b6 (by simp) rfl fun w7 b7 f7 z7 => ?_
  refine store_intro (i := 1) b7 (by simp) rfl fun w8 b8 f8 z8 => ?_
  refine store_intro (i := 2) b8 (by simp) rfl fun w9 b9 f9 z9 => ?_
  refine drw_intro fun wA fA zA => ?_
  have f69 : Fr (fun b => b = n) w6 w9 := (f7.trans f8 fun b h => .inl h).trans f9 fun b h => .inl h
  have f59 : Fr (fun _ => False) w5 w9 := f6.trans f69 fun b h => .inr (by have : b = n := h; omega)
  have f4A : Fr (fun _ => False) w4 wA := (f5.trans f59 fun _ h => h.elim).trans fA fun _ h => h.elim
  have f0A := f04.trans f4A fun _ h => h.elim
  have bA := b9.fr fA id
  have sA : Sl KyK wA (some ⟨mk, 0, none⟩) [0] := (s5.fr0 f59).fr0 fA
  have LA := hL4.fr0 f4A
  have TA := hT.fr0 f4A
  have key0 : Int.ofNat 0 = 0 := rfl
  refine load_int (i := 0) bA rfl (load_slice (i := 1) bA rfl (load_slice (i := 2) bA rfl ?_))
  refine load_int (i := 0) bA rfl (load_slice (i := 1) bA rfl (load_slice (i := 2) bA rfl ?_))
  -- the question stays
  have chk : ∀ {w' : World} {K : W}, Fr (fun _ => False) wA w' → K w' → Chk1 ⟨n, 0, none⟩ (.int .i64 5) (Chk1 ⟨n, 1, none⟩ (.slice none 0 0) (Chk1 ⟨n, 2, none⟩ (.slice (some ⟨mk, 0, none⟩) 1 1) (Chk1 ⟨n, 0, none⟩ (.int .i64 5) (Chk1 ⟨n, 1, none⟩ (.slice none 0 0) (Chk1 ⟨n, 2, none⟩ (.slice (some ⟨mk, 0, none⟩) 1 1) K))))) w' := fun {w' K} f h => by
    have b := bA.fr f id
    have c0 : w'.cell? ⟨n, 0, none⟩ = some (.int .i64 5) := by rw [b.cell]; rfl
    have c1 : w'.cell? ⟨n, 1, none⟩ = some (.slice none 0 0) := by rw [b.cell]; rfl
    have c2 : w'.cell? ⟨n, 2, none⟩ = some (.slice (some ⟨mk, 0, none⟩) 1 1) := by rw [b.cell]; rfl
    exact ⟨c0, c1, c2, c0, c1, c2, h⟩
  obtain ⟨i33, g1, g2, g3, g4⟩ := inf33
  -- the three last steps in a block
  have three : ∀ {w' : World} {f : Option Addr → Nat → Nat → W} {pk : Option Addr}, Fr (fun _ => False) wA w' → Sl KyK w' pk [0] → (∀ m w'', Fr (fun _ => False) w' w'' → w'.heap.size = m → Blk w'' m 33 ([.int .i64 5, .slice none 0 0, .slice (some ⟨mk, 0, none⟩) 1 1] ++ ([.int .i64 1, .slice tp (turn L).length tc, .slice pk 1 1] ++ [.int .i64 5, .slice none 0 0, .slice (some ⟨mk, 0, none⟩) 1 1])) → Rows StK w'' 0 ([.int .i64 5, .slice none 0 0, .slice (some ⟨mk, 0, none⟩) 1 1] ++ ([.int .i64 1, .slice tp (turn L).length tc, .slice pk 1 1] ++ [.int .i64 5, .slice none 0 0, .slice (some ⟨mk, 0, none⟩) 1 1])) [⟨5, [], [0]⟩, ⟨1, turn L, [0]⟩, ⟨5, [], [0]⟩] → f (some ⟨m, 0, none⟩) 3 3 w'') →
      RawT Go.Proofs.Tryd.prog (Instr.buildSlice 25 3 [(0, .agg #[.int .i64 5, .slice none 0 0, .slice (some ⟨mk, 0, none⟩) 1 1]), (1, .agg #[.int .i64 1, .slice tp (turn L).length tc, .slice pk 1 1]), (2, .agg #[.int .i64 5, .slice none 0 0, .slice (some ⟨mk, 0, none⟩) 1 1])].toArray) (.s (.one .slice)) f w' := fun {w' f pk} fr hpk hf => by
    refine build_intro und25 g1 g2 (by omega) (by omega) (fill33c _ _ _ _ _ _ _ _ _ _ _ _ _ _ _ _ _ _ _ _ _ i33 g3) fun w1 f1 b1 z1 => ?_
    refine hf _ w1 f1 rfl b1 ?_
    refine Rows.cons (K := StK) ⟨_, _, _, _, rfl, rfl, rfl, Sl.nil _ _ _, (sA.fr0 fr).fr0 f1⟩ rfl ?_
    refine Rows.cons (K := StK) ⟨_, _, _, _, rfl, rfl, rfl, (TA.sl.fr0 fr).fr0 f1, hpk.fr0 f1⟩ rfl ?_
    exact Rows.one (K := StK) ⟨_, _, _, _, rfl, rfl, rfl, Sl.nil _ _ _, (sA.fr0 fr).fr0 f1⟩
  -- all steps
  have steps : ∀ {w' : World} {f : Option Addr → Nat → Nat → W} {sp : Option Addr} {sc m : Nat} {news : List Value}, Fr (fun _ => False) wA w' → SlO StK w' sp L.length sc (ones L) → (∀ b, bl sp b → wA.heap.size ≤ b) → Blk w' m 33 news → Rows StK w' 0 news [⟨5, [], [0]⟩, ⟨1, turn L, [0]⟩, ⟨5, [], [0]⟩] → news.length = 9 → (∀ u ∈ news, u.oneCell' = true) →
      (∀ op oc w'', Fr (fun _ => False) wA w'' → SlO StK w'' op (L.length + 3) oc (ones L ++ [⟨5, [], [0]⟩, ⟨1, turn L, [0]⟩, ⟨5, [], [0]⟩]) → f op (L.length + 3) oc w'') →
      NextT Go.Proofs.Tryd.prog (builtin .append #[25, 25] 25 [false, false].toArray [.slice sp L.length sc, .slice (some ⟨m, 0, none⟩) 3 3].toArray) (.s (.one .slice)) f w' := fun {w' f sp sc m news} fr hS hsp hB hR hn h1 hf => by
    refine SlO.append (K := StK) und25 g1 g2 g3 (by decide) rfl g4 (by decide) hS hB hR rfl hn h1 (by omega) fun p' c' w5 f5 o5 hp5 => ?_
    exact hf p' c' w5 (fr.trans f5 fun b hb => .inr (hsp b hb)) o5
  -- the run and the look
  have fin : ∀ {w' : World} {op : Option Addr} {oc : Nat} , Fr (fun _ => False) wA w' → SlO StK w' op (L.length + 3) oc (ones L ++ [⟨5, [], [0]⟩, ⟨1, turn L, [0]⟩, ⟨5, [], [0]⟩]) →
      CallT Go.Proofs.Tryd.prog 15 [.int .i64 (B : Nat), .slice op (L.length + 3) oc] (.s (.one .slice)) (fun s21p s21l s21c =>
        Chk1 ⟨n, 0, none⟩ (.int .i64 5) (Chk1 ⟨n, 1, none⟩ (.slice none 0 0) (Chk1 ⟨n, 2, none⟩ (.slice (some ⟨mk, 0, none⟩) 1 1) (Chk1 ⟨n, 0, none⟩ (.int .i64 5) (Chk1 ⟨n, 1, none⟩ (.slice none 0 0) (Chk1 ⟨n, 2, none⟩ (.slice (some ⟨mk, 0, none⟩) 1 1)
          (F4_J1 k lp L.length lc tp (turn L).length tc s21p s21l s21c))))))) w' := fun {w' op oc} fr hS => by
    have hsl : L.length + 3 = (ones L ++ [(⟨5, [], [0]⟩ : Stp), ⟨1, turn L, [0]⟩, ⟨5, [], [0]⟩]).length := by simp [ones]
    have htot : tot (ones L ++ [(⟨5, [], [0]⟩ : Stp), ⟨1, turn L, [0]⟩, ⟨5, [], [0]⟩]) ≤ 2 * L.length := by
      rw [tot_append, tot_ones]
      show L.length + (0 + 0 + (turn L).length + 0) ≤ _
      omega
    have hTm := (turn_tn L).key
    rw [hsl] at hS ⊢
    refine F15_call (F15_spec hB (Ta.fr (f0A.trans fr fun _ h => h.elim) id id) hS.sl (fun s hs => ?_) (by omega) (by omega) fun yp yc w2 hA hyp f2 => back_slice ?_)
    · have hpos : 0 < 2 ^ B := Nat.pow_pos (by decide)
      rcases List.mem_append.1 hs with hs | hs
      · obtain ⟨x, hx, rfl⟩ := List.mem_map.1 hs
        exact ⟨.inl rfl, fun y hy => by rw [List.mem_singleton] at hy; subst hy; exact hlt _ hx, hpos⟩
      · simp only [List.mem_cons, List.not_mem_nil, or_false] at hs
        rcases hs with rfl | rfl | rfl
        · exact ⟨.inr (.inr rfl), (fun x hx => by cases hx), hpos⟩
        · exact ⟨.inl rfl, fun y hy => by
            obtain ⟨z, hz, e⟩ := (hTm y.1).1 ⟨y, hy, rfl⟩
            rw [← e]; exact hlt z hz, hpos⟩
        · exact ⟨.inr (.inr rfl), (fun x hx => by cases hx), hpos⟩
    · have fr2 := fr.trans f2 fun _ h => h.elim
      refine chk fr2 ?_
      have hyl := yrun_length (ones L) PSt.new
      have hol : (ones L).length = L.length := List.length_map ..
      rw [hol] at hyl
      have hyr := yrun_length (ones L ++ [(⟨5, [], [0]⟩ : Stp), ⟨1, turn L, [0]⟩, ⟨5, [], [0]⟩]) PSt.new
      rw [← hyr] at hA ⊢
      rw [yrun_again] at hA ⊢
      have hT2 := TA.fr0 fr2
      refine F4_J1_spec hT2.sl (by omega) hA.sl (by omega) (by simp [hyl]) ?_ ?_ ?_ fun w3 f3 => hk w3 ((f0A.trans fr2 fun _ h => h.elim).trans f3 fun _ h => h.elim)
      · rw [List.getElem?_append_right (by omega), hyl, Nat.sub_self]; rfl
      · rw [List.getElem?_append_right (by omega), hyl, show L.length + 1 - L.length = 1 by omega]; rfl
      · rw [List.getElem?_append_right (by omega), hyl, show L.length + 2 - L.length = 2 by omega]; rfl
  have one9 : ∀ {a b c d e f g h i : Value}, a.oneCell' = true → b.oneCell' = true → c.oneCell' = true → d.oneCell' = true → e.oneCell' = true → f.oneCell' = true → g.oneCell' = true → h.oneCell' = true → i.oneCell' = true → ∀ u ∈ ([a, b, c] ++ ([d, e, f] ++ [g, h, i])), u.oneCell' = true := fun h1 h2 h3 h4 h5 h6 h7 h8 h9 u hu => by
    simp only [List.mem_append, List.mem_cons, List.not_mem_nil, or_false] at hu
    rcases hu with (rfl | rfl | rfl) | (rfl | rfl | rfl) | rfl | rfl | rfl <;> assumption
  refine ⟨?_, ?_⟩
  · refine F16_call (F16_spec LA.sl hle.1 (by omega) fun sp sc w1' hS hsp f1' => back_slice ?_)
    refine chk f1' ?_
    refine bld_ky (x := 0) rfl fun mk2 w2' e2' b2' s2' f2' z2' => ?_
    have fA2 := f1'.trans f2' fun _ h => h.elim
    refine chk fA2 ?_
    refine three fA2 s2' fun m3 w3' f3' e3' b3' r3' => ?_
    have fA3 := fA2.trans f3' fun _ h => h.elim
    refine steps fA3 ((hS.fr0 f2').fr0 f3') hsp b3' r3' rfl (one9 rfl rfl rfl rfl rfl rfl rfl rfl rfl) fun op' oc' w4' f4' hS' => ?_
    refine chk f4' ?_
    exact fin f4' hS'
  · refine bld_ky (x := 0) rfl fun mk2 w1' e1' b1' s1' f1' z1' => ?_
    refine chk f1' ?_
    refine ⟨?_, ?_⟩
    · refine F16_call (F16_spec (LA.sl.fr0 f1') hle.1 (by omega) fun sp sc w2' hS hsp f2' => back_slice ?_)
      have fA2 := f1'.trans f2' fun _ h => h.elim
      have hz1' := f1'.size
      refine chk fA2 ?_
      refine three fA2 (s1'.fr0 f2') fun m3 w3' f3' e3' b3' r3' => ?_
      have fA3 := fA2.trans f3' fun _ h => h.elim
      refine steps fA3 (hS.fr0 f3') (fun b hb => by have := hsp b hb; omega) b3' r3' rfl (one9 rfl rfl rfl rfl rfl rfl rfl rfl rfl) fun op' oc' w4' f4' hS' => ?_
      refine chk f4' ?_
      exact fin f4' hS'
    · refine three f1' s1' fun m3 w2' f2' e2' b2' r2' => ?_
      have fA2 := f1'.trans f2' fun _ h => h.elim
      refine F16_call (F16_spec (LA.sl.fr0 fA2) hle.1 (by omega) fun sp sc w3' hS hsp f3' => back_slice ?_)
      have fA3 := fA2.trans f3' fun _ h => h.elim
      have hzA2 := fA2.size
      refine chk fA3 ?_
      refine steps fA3 hS (fun b hb => by have := hsp b hb; omega) (b2'.fr f3' id) (r2'.fr f3' fun _ _ _ h => h.elim) rfl (one9 rfl rfl rfl rfl rfl rfl rfl rfl rfl) fun op' oc' w4' f4' hS' => ?_
      refine chk f4' ?_
      exact fin f4' hS'
end Go.Proofs.YtaacaokocamlcaaDoor.E
