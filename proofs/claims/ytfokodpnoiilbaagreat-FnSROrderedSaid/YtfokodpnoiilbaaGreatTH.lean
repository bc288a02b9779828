/-
  Range trees of skip lists and ordered ones: the law FnSROrdered.
-/
import Derived.Test.YtfokodpnoiilbaaGreatTG
namespace Go.Proofs.YtfokodpnoiilbaaGreat.E
open Go
set_option linter.unusedSimpArgs false
set_option linter.unusedVariables false
set_option maxRecDepth 100000
set_option maxHeartbeats 8000000

theorem fill7 : ∀ i' : TypeInfo, i'.size = 1 → Instr.fill (fun j => some (j * i'.size, i'.size)) ((Array.range (7 * i'.size)).map ((Value.int .i64 0).cells[· % (Value.int .i64 0).cells.size]!)) [(0, .int .i64 1), (1, .int .i64 1), (2, .int .i64 3), (3, .int .i64 1), (4, .int .i64 4), (5, .int .i64 2), (6, .int .i64 6)] = some [.int .i64 1, .int .i64 1, .int .i64 3, .int .i64 1, .int .i64 4, .int .i64 2, .int .i64 6].toArray := by
  intro i' h; rw [h]; kernel_rfl
theorem fill31 (o on : Int) (p : Option Addr) (l c : Nat) (p2 : Option Addr) (l2 c2 : Nat) (p3 : Option Addr) (l3 c3 : Nat) (d x y m : Int) : ∀ i : TypeInfo, i.size = 9 → Instr.fill (fun j => some (j * i.size, i.size)) ((Array.range (1 * i.size)).map (z49.cells[· % z49.cells.size]!)) [(0, .agg #[.int .i64 o, .int .i64 on, .slice p l c, .slice p2 l2 c2, .slice p3 l3 c3, .int .u64 d, .int .i64 x, .int .i64 y, .int .i64 m])] = some (clsD o on p l c p2 l2 c2 p3 l3 c3 d x y m).toArray := by
  intro i h; rw [h]; kernel_rfl
theorem fill2s (p : Option Addr) (l c : Nat) : ∀ i : TypeInfo, i.size = 9 → Instr.fill (fun j => some (j * i.size, i.size)) ((Array.range (2 * i.size)).map (z49.cells[· % z49.cells.size]!)) [(0, .agg #[.int .i64 1, .int .i64 0, .slice p l c, .slice none 0 0, .slice none 0 0, .int .u64 0, .int .i64 0, .int .i64 0, .int .i64 0]), (1, .agg #[.int .i64 6, .int .i64 0, .slice none 0 0, .slice none 0 0, .slice none 0 0, .int .u64 0, .int .i64 0, .int .i64 0, .int .i64 0])] = some (clsD 1 0 p l c none 0 0 none 0 0 0 0 0 0 ++ clsD 6 0 none 0 0 none 0 0 none 0 0 0 0 0 0).toArray := by
  intro i h; rw [h]; kernel_rfl
section
variable {w : World} {k : Value → W}
theorem back9 {f : Int → Int → Option Addr → Nat → Nat → Option Addr → Nat → Nat → Option Addr → Nat → Nat → Int → Int → Int → Int → W} {a b : Int} {p : Option Addr} {l c : Nat} {p2 : Option Addr} {l2 c2 : Nat} {p3 : Option Addr} {l3 c3 : Nat} {d e g h : Int} (hh : f a b p l c p2 l2 c2 p3 l3 c3 d e g h w) :
    Back (.s (.agg [(.int .i64), (.int .i64), .slice, .slice, .slice, (.int .u64), (.int .i64), (.int .i64), (.int .i64)])) f (.returned (.agg #[.int .i64 a, .int .i64 b, .slice p l c, .slice p2 l2 c2, .slice p3 l3 c3, .int .u64 d, .int .i64 e, .int .i64 g, .int .i64 h])) w :=
  ⟨(a, b, (p, l, c), (p2, l2, c2), (p3, l3, c3), d, e, g, h, ()), rfl, hh⟩
/-- Which of the answers' entries there are: alike. -/
theorem F3_L3_spec {again : Int → Option Addr → Nat → Nat → Option Addr → Nat → Nat → Option Addr → Nat → Nat → Int → W} {seed : Int} {sp ap bp : Option Addr} {sl sc ac bc t : Nat} {A : List DAns} {a : DAns} (hA : Sl DAnK w ap A) (hB : Sl DAnK w bp A) (hx : A[t]? = some a) (hl : A.length < 1000) (hil : a.is.length < 1000000)
    (hk : ∀ w', Fr (fun _ => False) w w' → again seed sp sl sc ap A.length ac bp A.length bc (((t + 1 : Nat)) : Int) w') :
    Loop [(.int .i64), .slice, .slice, .slice, (.int .i64), (.int .i64)] (F3_L3 k again) seed sp sl sc ap A.length ac bp A.length bc ((t : Nat) : Int) 0 w := by
  have ht : t < A.length := (List.getElem?_eq_some_iff.1 hx).1
  refine F3_L3_rule (I := fun sd sp' sl' sc' ap' al' ac' bp' bl' bc' i j w' => sd = seed ∧ sp' = sp ∧ sl' = sl ∧ sc' = sc ∧ ap' = ap ∧ al' = A.length ∧ ac' = ac ∧ bp' = bp ∧ bl' = A.length ∧ bc' = bc ∧ i = ((t : Nat) : Int) ∧ ∃ u : Nat, j = ((u : Nat) : Int) ∧ u ≤ a.is.length ∧ Fr (fun _ => False) w w')
    (μ := fun sd sp' sl' sc' ap' al' ac' bp' bl' bc' i j w' => a.is.length - j.toNat) ?_ ⟨rfl, rfl, rfl, rfl, rfl, rfl, rfl, rfl, rfl, rfl, rfl, 0, rfl, Nat.zero_le _, Fr.refl _ _⟩
  rintro sd sp' sl' sc' ap' al' ac' bp' bl' bc' i j w1 ⟨e1, e2, e3, e4, e5, e6, e7, e8, e9, e10, e11, u, rfl, hu, f1⟩
  unfold F3_L3
  rw [e1, e2, e3, e4, e5, e6, e7, e8, e9, e10, e11]
  obtain ⟨aq, ao, epa, gp, gc, hp, hc, a0, a1, a2, a3, hG, hH⟩ := (hA.fr0 f1).get hx
  obtain ⟨bq, bo, epb, gp', gc', hp', hc', b0, b1, b2, b3, hG', hH'⟩ := (hB.fr0 f1).get hx
  rw [epa, epb]
  simp only [NN_mk, Int.toNat_natCast, add_mk]
  refine Req_iff.2 ⟨by omega, LoadT_slice.2 ⟨_, _, _, a1, ?_⟩⟩
  by_cases hlt : u < a.is.length
  · rw [decide_eq_true (show ((u : Nat) : Int) < ((a.is.length : Nat) : Int) by omega), BIf_true]
    refine drw_intro fun w2 f2 z2 => ?_
    have hb : a.is[u]? = some a.is[u] := List.getElem?_eq_getElem hlt
    generalize a.is[u] = bb at hb
    obtain ⟨hq, ho, ehp, hcl⟩ := slb_get (hH.fr0 f2) hb
    obtain ⟨hq', ho', ehp', hcl'⟩ := slb_get (hH'.fr0 f2) hb
    refine Req_iff.2 ⟨by omega, LoadT_slice.2 ⟨_, _, _, cellF0 a1 f2, ?_⟩⟩
    rw [ehp]
    simp only [NN_mk, Int.toNat_natCast, add_mk]
    refine Req_iff.2 ⟨by omega, LoadT_bool.2 ⟨_, hcl, Req_iff.2 ⟨by omega, LoadT_slice.2 ⟨_, _, _, cellF0 b1 f2, ?_⟩⟩⟩⟩
    rw [ehp']
    simp only [NN_mk, Int.toNat_natCast, add_mk]
    refine Req_iff.2 ⟨by omega, LoadT_bool.2 ⟨_, hcl', ?_⟩⟩
    rw [show (!(bb == bb)) = false by cases bb <;> rfl, BIf_false, addI_i64 (by omega) (by omega)]
    refine ⟨⟨by trivial, by trivial, by trivial, by trivial, by trivial, by trivial, by trivial, by trivial, by trivial, by trivial, by trivial, u + 1, by omega, hlt, f1.trans f2 fun _ h => h.elim⟩, ?_⟩
    show a.is.length - (((u : Nat) : Int) + 1).toNat < a.is.length - ((u : Nat) : Int).toNat
    omega
  · rw [decide_eq_false (show ¬ ((u : Nat) : Int) < ((a.is.length : Nat) : Int) by omega), BIf_false, addI_i64 (by omega) (by omega), show ((t : Nat) : Int) + 1 = ((t + 1 : Nat) : Int) by omega, ← epa, ← epb]
    exact hk w1 f1
/-- One entry, in a tree of one dimension. -/
theorem F3_one {seed : Int} (hk : ∀ w', Fr (fun _ => False) w w' → k (.bool true) w') :
    RawT Tryz.prog (Instr.buildSlice 28 1 [(0, .int .i64 3)].toArray) (.s (.one .slice)) (fun s75p s75l s75c =>
    RawT Tryz.prog (Instr.buildSlice 27 1 [(0, .agg #[.slice s75p s75l s75c, .int .i64 7])].toArray) (.s (.one .slice)) fun s76p s76l s76c =>
    RawT Tryz.prog (Instr.buildSlice 23 2 [(0, .agg #[.int .i64 1, .int .i64 0, .slice s76p s76l s76c, .slice none 0 0, .slice none 0 0, .int .u64 0, .int .i64 0, .int .i64 0, .int .i64 0]), (1, .agg #[.int .i64 6, .int .i64 0, .slice none 0 0, .slice none 0 0, .slice none 0 0, .int .u64 0, .int .i64 0, .int .i64 0, .int .i64 0])].toArray) (.s (.one .slice)) fun s77p s77l s77c =>
    CallT Tryz.prog 7 [.int .u64 1, .int .i64 seed, .slice s77p s77l s77c] (.s (.one .slice)) fun s78p s78l s78c =>
    BIf (((s78l : Nat) : Int) == 2) (
     NN s78p fun a79 =>
     Req (0 ≤ (1 : Int) ∧ (1 : Int) < ((s78l : Nat) : Int)) <|
     LoadT (.int .u64) ((a79.add ((1 : Int).toNat * 4)).add 3) fun x80 =>
     k (.bool (x80 == 1))) (
     k (.bool false))) w := by
  refine bld_i64 fun n1 w1 e1 b1 f1 z1 => ?_
  have hS1 : Sl In64K w1 (some ⟨n1, 0, none⟩) [3] := Sl.of_blk (K := In64K) b1 (Rows.one rfl)
  refine bld_do (y := ⟨some ⟨n1, 0, none⟩, 1, [3], 7⟩) hS1 fun n2 w2 e2 b2 hy2 f2 z2 => ?_
  have O2 : Sl (DoK 42) w2 (some ⟨n2, 0, none⟩) [([3], 7)] := Sl.of_blk (K := DoK 42) b2 (Rows.one ⟨_, _, rfl, rfl, hy2⟩)
  obtain ⟨i31, g1, g2, g3, g4⟩ := inf49
  refine build_intro und57 g1 g2 (by omega) (by omega) (fill2s _ _ _ i31 g3) fun w3 f3 b3 z3 => ?_
  have hss : Sl DStK w3 (some ⟨w2.heap.size, 0, none⟩) [⟨1, [([3], 7)], [], [], 0⟩, ⟨6, [], [], [], 0⟩] := by
    refine Sl.of_blk (K := DStK) b3 ?_
    exact Rows.cons (K := DStK) (dst_row (s := ⟨1, [([3], 7)], [], [], 0⟩) (O2.fr0 f3) (Sl.nil _ _ _) (Sl.nil _ _ _)) rfl (Rows.one (K := DStK) (dst_row (s := ⟨6, [], [], [], 0⟩) (Sl.nil _ _ _) (Sl.nil _ _ _) (Sl.nil _ _ _)))
  have h0 : ∀ i, (0 : Int) ≤ plI [] i ∧ plI [] i < 9223372036854775808 := fun i => by
    have := plI_pos (l := []) (fun v hv => by cases hv) i
    exact ⟨this.1, by omega⟩
  have h3 : PosP ([3], 7) := posP_of (l := [3]) fun v hv => by rw [List.mem_singleton] at hv; rw [hv]; decide
  have hok : ∀ s ∈ ([⟨1, [([3], 7)], [], [], 0⟩, ⟨6, [], [], [], 0⟩] : List DStp), OkX s := fun s hs => by
    simp only [List.mem_cons, List.not_mem_nil, or_false] at hs
    rcases hs with rfl | rfl
    · exact ⟨fun x hx => by rw [List.mem_singleton] at hx; rw [hx]; exact ⟨by simp, h3⟩, by simp, by simp, by simp, h0, .inl rfl⟩
    · exact ⟨fun x hx => (by cases hx), by simp, by simp, by simp, h0, .inr (.inr (.inr (.inr rfl)))⟩
  refine F7_call (F7_x (dm := 1) (ss := [⟨1, [([3], 7)], [], [], 0⟩, ⟨6, [], [], [], 0⟩]) (Nat.le_refl _) (by omega) hss hok (by simp) (by simp [totD]) fun w4 p4 c4 hA f4 => back_slice ?_)
  have h1 := one_run
  obtain ⟨a, ha, hn⟩ := Option.map_eq_some_iff.1 h1
  obtain ⟨q, o, rfl, p, c, r, d, g0, g1', g2', g3', _⟩ := hA.get ha
  rw [show ((([⟨1, [([3], 7)], [], [], 0⟩, ⟨6, [], [], [], 0⟩] : List DStp).length : Nat) : Int) = 2 from rfl, show ((2 : Int) == 2) = true from rfl, BIf_true]
  simp only [NN_mk, add_mk]
  refine Req_iff.2 ⟨by decide, LoadT_int.2 ⟨_, g3', ?_⟩⟩
  rw [hn, show (((1 : Nat) : Int) == 1) = true from rfl]
  exact hk w4 (((f1.trans f2 fun _ h => h.elim).trans f3 fun _ h => h.elim).trans f4 fun _ h => h.elim)
/-- Both trees' answers: alike. -/
theorem F3_L2_spec {seed : Int} {sp ap bp : Option Addr} {sc ac bc : Nat} {A : List DAns} (hA : Sl DAnK w ap A) (hB : Sl DAnK w bp A) (hl : A.length < 1000) (hd : ∀ a ∈ A, a.dots.length < 1000000 ∧ a.is.length < 1000000)
    (hk : ∀ w', Fr (fun _ => False) w w' → k (.bool true) w') :
    Loop [(.int .i64), .slice, .slice, .slice, (.int .i64)] (F3_L2 k) seed sp A.length sc ap A.length ac bp A.length bc 0 w := by
  refine F3_L2_rule (I := fun sd sp' sl' sc' ap' al' ac' bp' bl' bc' i w' => sd = seed ∧ sp' = sp ∧ sl' = A.length ∧ sc' = sc ∧ ap' = ap ∧ al' = A.length ∧ ac' = ac ∧ bp' = bp ∧ bl' = A.length ∧ bc' = bc ∧ ∃ t : Nat, i = ((t : Nat) : Int) ∧ t ≤ A.length ∧ Fr (fun _ => False) w w')
    (μ := fun sd sp' sl' sc' ap' al' ac' bp' bl' bc' i w' => A.length - i.toNat) ?_ ⟨rfl, rfl, rfl, rfl, rfl, rfl, rfl, rfl, rfl, rfl, 0, rfl, Nat.zero_le _, Fr.refl _ _⟩
  rintro sd sp' sl' sc' ap' al' ac' bp' bl' bc' i w1 ⟨e1, e2, e3, e4, e5, e6, e7, e8, e9, e10, t, rfl, ht, f1⟩
  unfold F3_L2
  rw [e1, e2, e3, e4, e5, e6, e7, e8, e9, e10]
  by_cases hlt : t < A.length
  · rw [decide_eq_true (show ((t : Nat) : Int) < ((A.length : Nat) : Int) by omega), BIf_true]
    refine drw_intro fun w2 f2 z2 => ?_
    have f02 := f1.trans f2 fun _ h => h.elim
    have hx : A[t]? = some A[t] := List.getElem?_eq_getElem hlt
    obtain ⟨hd1, hd2⟩ := hd _ (List.getElem_mem hlt)
    generalize A[t] = a at hx hd1 hd2
    obtain ⟨aq, ao, epa, gp, gc, hp, hc, a0, a1, a2, a3, hG, hH⟩ := (hA.fr0 f02).get hx
    obtain ⟨bq, bo, epb, gp', gc', hp', hc', b0, b1, b2, b3, hG', hH'⟩ := (hB.fr0 f02).get hx
    rw [epa, epb]
    simp only [NN_mk, Int.toNat_natCast, add_mk]
    refine Req_iff.2 ⟨by omega, LoadT_int.2 ⟨_, a3, Req_iff.2 ⟨by omega, LoadT_int.2 ⟨_, b3, ?_⟩⟩⟩⟩
    rw [show (((a.n : Nat) : Int) != ((a.n : Nat) : Int)) = false by simp, BIf_false]
    refine Req_iff.2 ⟨by omega, LoadT_slice.2 ⟨_, _, _, a0, Req_iff.2 ⟨by omega, LoadT_slice.2 ⟨_, _, _, b0, ?_⟩⟩⟩⟩
    refine F10_call (F10_spec hG hd1 fun w3 p3 c3 O3 f3 => back_slice ?_)
    refine Chk1_iff.2 ⟨cellF0 b0 f3, Chk1_iff.2 ⟨cellF0 b3 f3, Chk1_iff.2 ⟨cellF0 a3 f3, ?_⟩⟩⟩
    refine F10_call (F10_spec (hG'.fr0 f3) hd1 fun w4 p4 c4 O4 f4 => back_slice ?_)
    have f24 := f3.trans f4 fun _ h => h.elim
    refine Chk1_iff.2 ⟨cellF0 a0 f24, Chk1_iff.2 ⟨cellF0 b3 f24, Chk1_iff.2 ⟨cellF0 a3 f24, ?_⟩⟩⟩
    have hml : a.dots.length = (a.dots.map Prod.snd).length := (List.length_map _).symm
    refine F9_call (F9_spec (O3.sl.fr0 f4) O4.sl hml hml (by rw [← hml]; exact hd1) fun w5 f5 => back_bool ?_)
    have f25 := f24.trans f5 fun _ h => h.elim
    refine Chk1_iff.2 ⟨cellF0 b0 f25, Chk1_iff.2 ⟨cellF0 a0 f25, Chk1_iff.2 ⟨cellF0 b3 f25, Chk1_iff.2 ⟨cellF0 a3 f25, ?_⟩⟩⟩⟩
    rw [show (!true) = false from rfl, BIf_false]
    refine Req_iff.2 ⟨by omega, LoadT_slice.2 ⟨_, _, _, cellF0 a1 f25, Req_iff.2 ⟨by omega, LoadT_slice.2 ⟨_, _, _, cellF0 b1 f25, ?_⟩⟩⟩⟩
    rw [show (((a.is.length : Nat) : Int) != ((a.is.length : Nat) : Int)) = false by simp, BIf_false]
    have f05 := f02.trans f25 fun _ h => h.elim
    rw [← epa, ← epb]
    refine F3_L3_spec (hA.fr0 f05) (hB.fr0 f05) hx hl hd2 fun w6 f6 => ?_
    refine ⟨⟨rfl, rfl, rfl, rfl, rfl, rfl, rfl, rfl, rfl, rfl, t + 1, rfl, hlt, f05.trans f6 fun _ h => h.elim⟩, ?_⟩
    show A.length - ((t + 1 : Nat) : Int).toNat < A.length - ((t : Nat) : Int).toNat
    omega
  · rw [decide_eq_false (show ¬ ((t : Nat) : Int) < ((A.length : Nat) : Int) by omega), BIf_false]
    exact F3_one fun w' f' => hk w' (f1.trans f' fun _ h => h.elim)
end
end Go.Proofs.YtfokodpnoiilbaaGreat.E
