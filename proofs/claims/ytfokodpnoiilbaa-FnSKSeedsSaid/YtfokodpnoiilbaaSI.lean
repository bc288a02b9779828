/-
  The law FnSKSeeds.
-/
import Derived.Test.YtfokodpnoiilbaaSH
namespace Go.Proofs.Ytfokodpnoiilbaa.E
open Go
set_option linter.unusedSimpArgs false
set_option linter.unusedVariables false
set_option maxRecDepth 100000
set_option maxHeartbeats 8000000

theorem quo8 {size : Int} (h0 : 0 ≤ size) (h1 : size < 256) : 0 ≤ quoI .u8 size 4 := by
  have h : quoI .u8 size 4 = IntKind.wrap .u8 (size.tdiv 4) := rfl
  rw [h, Int.tdiv_eq_ediv_of_nonneg h0, wrap_u8 (by omega) (by omega)]
  omega
section
variable {w : World} {size one : Int} {sp ap bp : Option Addr} {sc ac bc : Nat} {ss : List Stp} {A : List Ans}
/-- The end: one insertion, and the length. -/
theorem F4_end {k : Value → W} (hsz : 0 ≤ size) (hk : ∀ w', Fr (fun _ => False) w w' → k (.bool true) w') :
    (CallT Go.Proofs.Try.prog 10 [.int .u8 size] (.s (.one (.int .i64))) fun x69 =>
  RawT Go.Proofs.Try.prog (Instr.buildSlice 31 1 [(0, .agg #[.int .i64 3, .int .i64 4])].toArray) (.s (.one .slice)) fun s70p s70l s70c =>
  RawT Go.Proofs.Try.prog (Instr.buildSlice 26 2 [(0, .agg #[.int .i64 1, .int .i64 0, .slice s70p s70l s70c, .int .u64 0, .int .i64 0]), (1, .agg #[.int .i64 6, .int .i64 0, .slice none 0 0, .int .u64 0, .int .i64 0])].toArray) (.s (.one .slice)) fun s71p s71l s71c =>
  CallT Go.Proofs.Try.prog 9 [.int .i64 x69, .int .i64 one, .slice s71p s71l s71c] (.s (.one .slice)) fun s72p s72l s72c =>
  BIf (((s72l : Nat) : Int) == 2) (
   NN s72p fun a73 =>
   Req (0 ≤ (1 : Int) ∧ (1 : Int) < ((s72l : Nat) : Int)) <|
   LoadT (.int .u64) ((a73.add ((1 : Int).toNat * 3)).add 2) fun x74 =>
   k (.bool (x74 == 1))) (
   k (.bool false))) w := by
  refine F10_call (F10_spec hsz fun y => back_int ?_)
  refine bld_it fun m w1 e1 b1 f1 z1 => ?_
  obtain ⟨i, g1, g2, g3, g4⟩ := inf39
  refine build_intro und26 g1 g2 (by omega) (by omega) (fill39b _ _ _ _ _ _ _ _ _ _ i g3) fun w2 f2 b2 z2 => ?_
  let ex : List En := [⟨1, 0, [(3, 4)], some ⟨m, 0, none⟩, 1⟩, ⟨6, 0, [], none, 0⟩]
  have hSl : ∀ e ∈ ex, Sl ItK w2 e.pi e.items := fun e he => by
    have : e = ⟨1, 0, [(3, 4)], some ⟨m, 0, none⟩, 1⟩ ∨ e = ⟨6, 0, [], none, 0⟩ := by simpa [ex] using he
    rcases this with rfl | rfl
    · exact Sl.of_blk (K := ItK) (b1.fr f2 id) (Rows.one ⟨rfl, rfl⟩)
    · exact Sl.nil _ _ _
  have hS : Sl StK w2 (some ⟨w1.heap.size, 0, none⟩) (ex.map En.st) := Sl.of_blk b2 (Rows.flat hSl)
  have hok : ∀ s ∈ ex.map En.st, Okay s := fun s hs => by
    have : s = ⟨1, [(3, 4)], 0⟩ ∨ s = ⟨6, [], 0⟩ := by simpa [ex, En.st] using hs
    rcases this with rfl | rfl
    · exact ⟨.inl rfl, by show (0 : Int) ≤ 0; decide, by show (0 : Int) < 4000000000; decide⟩
    · exact ⟨.inr (.inr (.inr (.inr rfl))), by show (0 : Int) ≤ 0; decide, by show (0 : Int) < 4000000000; decide⟩
  refine F9_call (F9_spec (ss := ex.map En.st) hS hok (by show (1 : Nat) < 2000000000; decide) (by show (2 : Nat) < 2000000000; decide) fun w3 p c hA f3 => back_slice ?_)
  rw [show ((((ex.map En.st).length : Nat) : Int) == 2) = true from rfl, BIf_true]
  obtain ⟨q, o, rfl, pi, ci, ph, ch, d0, d1, d2, gi, gh⟩ := hA.get (i := 1) (x := stepA (stepS [] ⟨1, [(3, 4)], 0⟩) ⟨6, [], 0⟩) rfl
  simp only [NN_mk, add_mk]
  refine ⟨⟨by decide, by show (1 : Int) < ((2 : Nat) : Int); decide⟩, LoadT_int.2 ⟨_, d2, ?_⟩⟩
  rw [show ((((stepA (stepS [] ⟨1, [(3, 4)], 0⟩) ⟨6, [], 0⟩).n : Nat) : Int) == 1) = true by decide]
  exact hk w3 ((f1.trans f2 fun _ h => h.elim).trans f3 fun _ h => h.elim)
theorem F4_L3_spec {k : Value → W} {again : Int → Int → Option Addr → Nat → Nat → Option Addr → Nat → Nat → Option Addr → Nat → Nat → Int → W} {t : Nat} {x : Ans} (hA : Sl AnK w ap A) (hB : Sl AnK w bp A) (hx : A[t]? = some x) {n : Nat} (hn : A.length = n) (hl : n < 1000) (hxl : x.is.length < 4000000000)
    (hk : ∀ w', Fr (fun _ => False) w w' → again size one sp ss.length sc ap n ac bp n bc ((t + 1 : Nat) : Int) w') :
    Loop [(.int .u8), (.int .i64), .slice, .slice, .slice, (.int .i64), (.int .i64)] (F4_L3 k again) size one sp ss.length sc ap n ac bp n bc ((t : Nat) : Int) 0 w := by
  have hlt := (List.getElem?_eq_some_iff.1 hx).1
  refine F4_L3_rule (I := fun z1 z2 s1 s2 s3 a1 a2 a3 b1 b2 b3 i' j w' => z1 = size ∧ z2 = one ∧ s1 = sp ∧ s2 = ss.length ∧ s3 = sc ∧ a1 = ap ∧ a2 = n ∧ a3 = ac ∧ b1 = bp ∧ b2 = n ∧ b3 = bc ∧ i' = ((t : Nat) : Int) ∧ ∃ r : Nat, j = ((r : Nat) : Int) ∧ r ≤ x.is.length ∧ Fr (fun _ => False) w w')
    (μ := fun z1 z2 s1 s2 s3 a1 a2 a3 b1 b2 b3 i' j w' => x.is.length - j.toNat) ?_ ⟨rfl, rfl, rfl, rfl, rfl, rfl, rfl, rfl, rfl, rfl, rfl, rfl, 0, rfl, Nat.zero_le _, Fr.refl _ _⟩
  rintro z1 z2 s1 s2 s3 a1 a2 a3 b1 b2 b3 i' j w1 ⟨h1, h2, h3, h4, h5, h6, h7, h8, h9, h10, h11, h12, r, rfl, hr, f1⟩
  obtain ⟨qa, oa, ea, pi, ci, ph, ch, d0, d1, d2, gi, gh⟩ := (hA.fr0 f1).get hx
  obtain ⟨qb, ob, eb, pi', ci', ph', ch', d0', d1', d2', gi', gh'⟩ := (hB.fr0 f1).get hx
  unfold F4_L3
  rw [h1, h2, h3, h4, h5, h6, h7, h8, h9, h10, h11, h12, ea, eb]
  simp only [NN_mk, Int.toNat_natCast, add_mk]
  refine ⟨by omega, LoadT_slice.2 ⟨_, _, _, d1, ?_⟩⟩
  by_cases hlt2 : r < x.is.length
  · rw [decide_eq_true (show ((r : Nat) : Int) < ((x.is.length : Nat) : Int) by omega), BIf_true]
    refine drw_intro fun w2 f2 z2 => ?_
    have hb : x.is[r]? = some x.is[r] := List.getElem?_eq_getElem hlt2
    obtain ⟨q1, o1, rfl, c1⟩ := gh.cellb hb
    obtain ⟨q2, o2, rfl, c2⟩ := gh'.cellb hb
    refine ⟨by omega, LoadT_slice.2 ⟨_, _, _, cell_fr0 d1 f2, ?_⟩⟩
    simp only [NN_mk, Int.toNat_natCast, add_mk]
    refine ⟨by omega, LoadT_bool.2 ⟨_, cell_fr0 c1 f2, ?_⟩⟩
    refine ⟨by omega, LoadT_slice.2 ⟨_, _, _, cell_fr0 d1' f2, ?_⟩⟩
    simp only [NN_mk, Int.toNat_natCast, add_mk]
    refine ⟨by omega, LoadT_bool.2 ⟨_, cell_fr0 c2 f2, ?_⟩⟩
    rw [show (!(x.is[r] == x.is[r])) = false by simp, BIf_false, add64 (by omega)]
    refine ⟨⟨by trivial, by trivial, by trivial, by trivial, by trivial, by trivial, by trivial, by trivial, by trivial, by trivial, by trivial, by trivial, r + 1, by trivial, hlt2, f1.trans f2 fun _ h => h.elim⟩, ?_⟩
    show x.is.length - ((r + 1 : Nat) : Int).toNat < x.is.length - ((r : Nat) : Int).toNat
    omega
  · rw [decide_eq_false (show ¬ ((r : Nat) : Int) < ((x.is.length : Nat) : Int) by omega), BIf_false, add64 (by omega)]
    have := hk w1 f1
    rw [ea, eb] at this
    exact this
theorem F4_L2_spec {k : Value → W} {again : Int → Int → Option Addr → Nat → Nat → Option Addr → Nat → Nat → Option Addr → Nat → Nat → Int → W} {t : Nat} {x : Ans} (hA : Sl AnK w ap A) (hB : Sl AnK w bp A) (hx : A[t]? = some x) {n : Nat} (hn : A.length = n) (hl : n < 1000) (hxl : x.is.length < 4000000000) (hxl2 : x.items.length < 4000000000)
    (hk : ∀ w', Fr (fun _ => False) w w' → again size one sp ss.length sc ap n ac bp n bc ((t + 1 : Nat) : Int) w') :
    Loop [(.int .u8), (.int .i64), .slice, .slice, .slice, (.int .i64), (.int .i64)] (F4_L2 k again) size one sp ss.length sc ap n ac bp n bc ((t : Nat) : Int) 0 w := by
  have hlt := (List.getElem?_eq_some_iff.1 hx).1
  refine F4_L2_rule (I := fun z1 z2 s1 s2 s3 a1 a2 a3 b1 b2 b3 i' j w' => z1 = size ∧ z2 = one ∧ s1 = sp ∧ s2 = ss.length ∧ s3 = sc ∧ a1 = ap ∧ a2 = n ∧ a3 = ac ∧ b1 = bp ∧ b2 = n ∧ b3 = bc ∧ i' = ((t : Nat) : Int) ∧ ∃ r : Nat, j = ((r : Nat) : Int) ∧ r ≤ x.items.length ∧ Fr (fun _ => False) w w')
    (μ := fun z1 z2 s1 s2 s3 a1 a2 a3 b1 b2 b3 i' j w' => x.items.length - j.toNat) ?_ ⟨rfl, rfl, rfl, rfl, rfl, rfl, rfl, rfl, rfl, rfl, rfl, rfl, 0, rfl, Nat.zero_le _, Fr.refl _ _⟩
  rintro z1 z2 s1 s2 s3 a1 a2 a3 b1 b2 b3 i' j w1 ⟨h1, h2, h3, h4, h5, h6, h7, h8, h9, h10, h11, h12, r, rfl, hr, f1⟩
  obtain ⟨qa, oa, ea, pi, ci, ph, ch, d0, d1, d2, gi, gh⟩ := (hA.fr0 f1).get hx
  obtain ⟨qb, ob, eb, pi', ci', ph', ch', d0', d1', d2', gi', gh'⟩ := (hB.fr0 f1).get hx
  unfold F4_L2
  rw [h1, h2, h3, h4, h5, h6, h7, h8, h9, h10, h11, h12, ea, eb]
  simp only [NN_mk, Int.toNat_natCast, add_mk]
  refine ⟨by omega, LoadT_slice.2 ⟨_, _, _, d0, ?_⟩⟩
  by_cases hlt2 : r < x.items.length
  · rw [decide_eq_true (show ((r : Nat) : Int) < ((x.items.length : Nat) : Int) by omega), BIf_true]
    refine drw_intro fun w2 f2 z2 => ?_
    have hb : x.items[r]? = some x.items[r] := List.getElem?_eq_getElem hlt2
    obtain ⟨q1, o1, rfl, c0, c1⟩ := gi.get hb
    obtain ⟨q2, o2, rfl, c0', c1'⟩ := gi'.get hb
    refine ⟨by omega, LoadT_slice.2 ⟨_, _, _, cell_fr0 d0 f2, ?_⟩⟩
    simp only [NN_mk, Int.toNat_natCast, add_mk]
    refine ⟨by omega, LoadT_int.2 ⟨_, cell_fr0 c0 f2, LoadT_int.2 ⟨_, cell_fr0 c1 f2, ?_⟩⟩⟩
    refine ⟨by omega, LoadT_slice.2 ⟨_, _, _, cell_fr0 d0' f2, ?_⟩⟩
    simp only [NN_mk, Int.toNat_natCast, add_mk]
    refine ⟨by omega, LoadT_int.2 ⟨_, cell_fr0 c0' f2, LoadT_int.2 ⟨_, cell_fr0 c1' f2, ?_⟩⟩⟩
    refine raws_b (neq37 _ _ _ _ w2) ?_
    refine ⟨cell_fr0 d0' f2, cell_fr0 d0 f2, ?_⟩
    rw [BIf_false, add64 (by omega)]
    refine ⟨⟨by trivial, by trivial, by trivial, by trivial, by trivial, by trivial, by trivial, by trivial, by trivial, by trivial, by trivial, by trivial, r + 1, by trivial, hlt2, f1.trans f2 fun _ h => h.elim⟩, ?_⟩
    show x.items.length - ((r + 1 : Nat) : Int).toNat < x.items.length - ((r : Nat) : Int).toNat
    omega
  · rw [decide_eq_false (show ¬ ((r : Nat) : Int) < ((x.items.length : Nat) : Int) by omega), BIf_false, ← ea, ← eb]
    exact F4_L3_spec (ss := ss) (hA.fr0 f1) (hB.fr0 f1) hx hn hl hxl fun w2 f2 => hk w2 (f1.trans f2 fun _ h => h.elim)
end
/-- What is told of a step is short. -/
theorem stepA_len {l : List Itm} {s : Stp} (h : Okay s) : (stepA l s).items.length ≤ l.length + s.items.length ∧ (stepA l s).is.length ≤ l.length + s.items.length := by
  have ho : ∀ (f : List Itm → Itm → List Itm), (ansO (runO f l s.items)).items.length = s.items.length ∧ (ansO (runO f l s.items)).is.length = s.items.length := fun f => by
    have := kps_len ⟨[], [], 0⟩ (runO f l s.items)
    rw [runO_length] at this
    exact ⟨by have := this.1; simpa [ansO] using this, by have := this.2; simpa [ansO] using this⟩
  unfold stepA
  split
  · have := ho putI; omega
  · split
    · have := ho getI; omega
    · split
      · have := ho delI; omega
      · split
        · have h1 : (hiI (s.items.headD (0, 0)).1 l).length ≤ l.length := List.length_filter_le _ _
          refine ⟨?_, ?_⟩
          · show (List.take _ _).length ≤ _
            rw [List.length_take]; omega
          · show (List.map _ (List.take _ _)).length ≤ _
            rw [List.length_map, List.length_take]; omega
        · exact ⟨Nat.zero_le _, Nat.zero_le _⟩
theorem F4_spec {k : Value → W} {w : World} {size one two : Int} {mp : Option Addr} {mc : Nat} {ms : List Int} (hsz : 0 ≤ size) (hsz2 : size < 256) (hM : U16s w mp ms) (hk : ∀ w', Fr (fun _ => False) w w' → k (.bool true) w') : F4 k size one two mp ms.length mc w := by
  unfold F4
  refine BIf_intro (fun _ => hk w (Fr.refl _ _)) fun _ => ?_
  obtain ⟨i, g1, g2, g3, g4⟩ := inf3
  refine build_intro und24 g1 g2 (by omega) (by omega) (fill3b i g3) fun w1 f1 b1 z1 => ?_
  refine F8_call (F8_spec (ks := [1, 1, 5, 1, 2, 4, 6]) (hM.fr0 f1) b1 (by decide) (by decide) (by decide) fun w2 sp sc ss hS hok hlen htot f2 => back_slice ?_)
  refine F10_call (F10_spec hsz fun y1 => back_int ?_)
  have hok' : ∀ s ∈ ss, Okay s := fun s hs => (hok s hs).1
  refine F9_call (F9_spec hS hok' (by omega) (by omega) fun w3 ap ac hA f3 => back_slice ?_)
  rw [Req_iff]
  refine ⟨by decide, ?_⟩
  refine F10_call (F10_spec (quo8 hsz hsz2) fun y2 => back_int ?_)
  refine F9_call (F9_spec (hS.fr0 f3) hok' (by omega) (by omega) fun w4 bp bc hB f4 => back_slice ?_)
  have hA4 := hA.fr0 f4
  rw [show (((ss.length : Nat) : Int) != ((ss.length : Nat) : Int)) = false by simp, BIf_false, BIf_false]
  have f04 : Fr (fun _ => False) w w4 := ((f1.trans f2 fun _ h => h.elim).trans f3 fun _ h => h.elim).trans f4 fun _ h => h.elim
  have hAl : (runA [] ss).length = ss.length := runA_length _ _
  refine F4_L1_rule (I := fun z1 z2 s1 s2 s3 a1 a2 a3 b1 b2 b3 i' w' => z1 = size ∧ z2 = one ∧ s1 = sp ∧ s2 = ss.length ∧ s3 = sc ∧ a1 = ap ∧ a2 = ss.length ∧ a3 = ac ∧ b1 = bp ∧ b2 = ss.length ∧ b3 = bc ∧ ∃ t : Nat, i' = ((t : Nat) : Int) ∧ t ≤ ss.length ∧ Fr (fun _ => False) w4 w')
    (μ := fun z1 z2 s1 s2 s3 a1 a2 a3 b1 b2 b3 i' w' => ss.length - i'.toNat) ?_ ⟨rfl, rfl, rfl, rfl, rfl, rfl, rfl, rfl, rfl, rfl, rfl, 0, rfl, Nat.zero_le _, Fr.refl _ _⟩
  rintro z1' z2 s1 s2 s3 a1 a2 a3 b1' b2 b3 i' w5 ⟨h1, h2, h3, h4, h5, h6, h7, h8, h9, h10, h11, t, rfl, ht, f5⟩
  unfold F4_L1
  rw [h1, h2, h3, h4, h5, h6, h7, h8, h9, h10, h11]
  by_cases hlt : t < ss.length
  · rw [decide_eq_true (show ((t : Nat) : Int) < ((ss.length : Nat) : Int) by omega), BIf_true]
    refine drw_intro fun w6 f6 z6 => ?_
    have f56 := f5.trans f6 fun _ h => h.elim
    have hx0 : ss[t]? = some ss[t] := List.getElem?_eq_getElem hlt
    have hx := runA_get ss [] t _ hx0
    have hl1 := runL_len (ss.take t) []
    have hl2 := tot_take_le hx0
    have hl3 := stepA_len (l := runL [] (ss.take t)) (hok' _ (List.mem_of_getElem? hx0))
    simp only [List.length_nil] at hl1
    generalize stepA (runL [] (ss.take t)) ss[t] = x at *
    have hA6 := hA4.fr0 f56
    have hB6 := hB.fr0 f56
    obtain ⟨qa, oa, ea, pi, ci, ph, ch, d0, d1, d2, gi, gh⟩ := hA6.get hx
    obtain ⟨qb, ob, eb, pi', ci', ph', ch', d0', d1', d2', gi', gh'⟩ := hB6.get hx
    rw [ea, eb]
    simp only [NN_mk, Int.toNat_natCast, add_mk]
    refine ⟨by omega, LoadT_int.2 ⟨_, d2, ?_⟩⟩
    refine ⟨by omega, LoadT_int.2 ⟨_, d2', ?_⟩⟩
    rw [show (((x.n : Nat) : Int) != ((x.n : Nat) : Int)) = false by simp, BIf_false]
    refine ⟨by omega, LoadT_slice.2 ⟨_, _, _, d0, ?_⟩⟩
    refine ⟨by omega, LoadT_slice.2 ⟨_, _, _, d0', ?_⟩⟩
    rw [show (((x.items.length : Nat) : Int) != ((x.items.length : Nat) : Int)) = false by simp, BIf_false]
    refine ⟨by omega, LoadT_slice.2 ⟨_, _, _, d1, ?_⟩⟩
    refine ⟨by omega, LoadT_slice.2 ⟨_, _, _, d1', ?_⟩⟩
    rw [show (((x.is.length : Nat) : Int) != ((x.is.length : Nat) : Int)) = false by simp, BIf_false]
    rw [← ea, ← eb]
    refine F4_L2_spec (ss := ss) hA6 hB6 hx hAl (by omega) (by omega) (by omega) fun w7 f7 => ?_
    refine ⟨⟨by trivial, by trivial, by trivial, by trivial, by trivial, by trivial, by trivial, by trivial, by trivial, by trivial, by trivial, t + 1, by trivial, hlt, f56.trans f7 fun _ h => h.elim⟩, ?_⟩
    show ss.length - ((t + 1 : Nat) : Int).toNat < ss.length - ((t : Nat) : Int).toNat
    omega
  · rw [decide_eq_false (show ¬ ((t : Nat) : Int) < ((ss.length : Nat) : Int) by omega), BIf_false]
    exact F4_end hsz fun w7 f7 => hk w7 ((f04.trans f5 fun _ h => h.elim).trans f7 fun _ h => h.elim)
end Go.Proofs.Ytfokodpnoiilbaa.E
