/-
  Plus trees: what a tree gets into which words were put in some calls.
-/
import Derived.Test.YtofnapddoiodkaaPtZ
namespace Go.Proofs.Ytofnapddoiodkaa.E
open Go
set_option linter.unusedSimpArgs false
set_option linter.unusedVariables false
set_option maxRecDepth 100000
set_option maxHeartbeats 8000000

/-- Lists of words, as elements. -/
def SlK : Rk (List KV) := ⟨23, 1, fun w g xs => ∃ p c, g 0 = some (.slice p xs.length c) ∧ Sl ItK w p xs, [26],
  fun h ⟨p, c, h0, h1⟩ => ⟨p, c, by rw [← h 0 (by decide)]; exact h0, h1⟩, fun f hd ⟨p, c, h0, h1⟩ => ⟨p, c, h0, sl_dp h1 f hd (by decide) (fun u hu => by cases hu)⟩⟩
def z35 : Value := .agg #[.int .i64 0, .slice none 0 0, .int .i64 0]
theorem und33 : Try.prog.underlying 33 = some (.slice 35) := by kernel_rfl
theorem inf35 : ∃ i, Try.prog.info? 35 = some i ∧ i.zero = some z35 ∧ i.size = 3 ∧ i.bytes ≤ 4096 := ⟨_, rfl, by kernel_rfl, by kernel_rfl, Nat.le_of_ble_eq_true (by kernel_rfl)⟩
theorem fill35 (n : Int) (p : Option Addr) (l c : Nat) : ∀ i : TypeInfo, i.size = 3 → Instr.fill (fun j => some (j * i.size, i.size)) ((Array.range (1 * i.size)).map (z35.cells[· % z35.cells.size]!)) [(0, .agg #[.int .i64 n, .slice p l c, .int .i64 0])] = some [.int .i64 n, .slice p l c, .int .i64 0].toArray := by
  intro i h; rw [h]; kernel_rfl
theorem fill35b (n : Int) (p : Option Addr) (l c : Nat) (n' : Int) (p' : Option Addr) (l' c' : Nat) : ∀ i : TypeInfo, i.size = 3 → Instr.fill (fun j => some (j * i.size, i.size)) ((Array.range (2 * i.size)).map (z35.cells[· % z35.cells.size]!)) [(0, .agg #[.int .i64 n, .slice p l c, .int .i64 0]), (1, .agg #[.int .i64 n', .slice p' l' c', .int .i64 0])] =
    some [.int .i64 n, .slice p l c, .int .i64 0, .int .i64 n', .slice p' l' c', .int .i64 0].toArray := by
  intro i h; rw [h]; kernel_rfl
section
variable {k : Value → W} {w : World}
theorem back_gd {f : Option Addr → Nat → Nat → Option Addr → Nat → Nat → Int → Bool → W} {p p' : Option Addr} {l c l' c' : Nat} {n : Int} {b : Bool} (h : f p l c p' l' c' n b w) :
    Back (.tup [(.one .slice), (.one .slice), (.one (.int .u64)), (.one .bool)]) f (.returned (.tuple #[.slice p l c, .slice p' l' c', .int .u64 n, .bool b])) w := ⟨((p, l, c), (p', l', c'), n, b, ()), rfl, h⟩
theorem F5_spec {S : Nat} {calls : List (List KV)} {ask : List KV} {cp ap : Option Addr} {cc ac : Nat} (h3 : 3 ≤ S) (hS : S < 1000) (hC : Sl SlK w cp calls) (hA : Sl ItK w ap ask) (h1 : calls.flatten.length < 1000) (h2 : calls.length < 1000) (h4 : ask.length < 1000)
    (hk : ∀ w' p c p' c', Sl ItK w' p (ask.map fun x => (look x.1 (putAll [] calls.flatten)).getD (0, 0)) → Sl BoK w' p' (ask.map fun x => (look x.1 (putAll [] calls.flatten)).isSome) → Fr (fun _ => False) w w' →
      k (.tuple #[.slice p ask.length c, .slice p' ask.length c', .int .u64 (((putAll [] calls.flatten).length : Nat) : Int), .bool true]) w') : F5 k ((S : Nat) : Int) cp calls.length cc ap ask.length ac w := by
  unfold F5
  obtain ⟨i35, g1, g2, g3, g4⟩ := inf35
  refine F5_L1_rule (I := fun sz cp' cl cc' ap' al ac' sp sl sc i w' => sz = ((S : Nat) : Int) ∧ cp' = cp ∧ cl = calls.length ∧ cc' = cc ∧ ap' = ap ∧ al = ask.length ∧ ac' = ac ∧ ∃ t : Nat, i = ((t : Nat) : Int) ∧ t ≤ calls.length ∧ SlO StK w' sp sl sc ((calls.take t).map stp1) ∧ (∀ b, bl sp b → w.heap.size ≤ b) ∧ Fr (fun _ => False) w w')
    (μ := fun sz cp' cl cc' ap' al ac' sp sl sc i w' => calls.length - i.toNat) ?_ ⟨rfl, rfl, rfl, rfl, rfl, rfl, rfl, 0, rfl, Nat.zero_le _, SlO.nil _ _, (fun b ⟨_, h, _⟩ => by cases h), Fr.refl _ _⟩
  rintro sz cp' cl cc' ap' al ac' sp sl sc i w1 ⟨rfl, e0, e1, e2, e3, e4, e5, t, rfl, ht, O1, hsp, f1⟩
  obtain rfl := e0.symm
  obtain rfl := e2.symm
  obtain rfl := e3.symm
  obtain rfl := e5.symm
  have hsl : sl = t := by rw [O1.len]; simp; omega
  unfold F5_L1
  rw [e1, e4]
  have hz1 := f1.size
  by_cases hlt : t < calls.length
  · rw [decide_eq_true (show ((t : Nat) : Int) < ((calls.length : Nat) : Int) by omega), BIf_true]
    have hx : calls[t]? = some calls[t] := List.getElem?_eq_getElem hlt
    generalize calls[t] = x at hx
    obtain ⟨q, o, rfl, p, c, h0, hX⟩ := (hC.fr0 f1).get hx
    simp only [NN_mk, Int.toNat_natCast, add_mk]
    refine ⟨by omega, LoadT_slice.2 ⟨p, x.length, c, by simpa [SlK] using h0, ?_⟩⟩
    refine build_intro und33 g1 g2 (by omega) (by omega) (fill35 _ _ _ _ i35 g3) fun w2 f2 b2 z2 => ?_
    refine SlO.append (K := StK) und33 g1 g2 g3 (by decide) rfl g4 (by decide) (O1.fr0 f2) b2 (ys := [stp1 x]) (Rows.one ⟨p, c, rfl, rfl, rfl, hX.fr0 f2⟩) rfl rfl (fun u hu => ?_) (by omega) fun p' c' w3 f3 O3 hp3 => ?_
    · simp only [List.mem_cons, List.not_mem_nil, or_false] at hu
      rcases hu with rfl | rfl | rfl <;> rfl
    rw [addI_i64 (by omega) (by omega)]
    refine ⟨⟨by trivial, by trivial, by trivial, by trivial, by trivial, by trivial, by trivial, t + 1, by omega, hlt, ?_, fun b hb => ?_, (f1.trans f2 fun _ h => h.elim).trans f3 fun b hb => .inr (hsp b hb)⟩, ?_⟩
    · rw [take_snoc hx, List.map_append]; exact O3
    · rcases hp3 b hb with h | h
      · exact hsp b h
      · omega
    · show calls.length - (((t : Nat) : Int) + 1).toNat < calls.length - ((t : Nat) : Int).toNat
      omega
  · rw [decide_eq_false (show ¬ ((t : Nat) : Int) < ((calls.length : Nat) : Int) by omega), BIf_false]
    have : t = calls.length := by omega
    subst this
    rw [List.take_length] at O1
    refine build_intro und33 g1 g2 (by omega) (by omega) (fill35b _ _ _ _ _ _ _ _ i35 g3) fun w2 f2 b2 z2 => ?_
    have hA2 := (hA.fr0 f1).fr0 f2
    refine SlO.append (K := StK) und33 g1 g2 g3 (by decide) rfl g4 (by decide) (O1.fr0 f2) b2 (ys := [⟨2, ask⟩, ⟨4, []⟩]) ?_ rfl rfl (fun u hu => ?_) (by omega) fun p' c' w3 f3 O3 hp3 => ?_
    · exact Rows.cons (K := StK) (x := ⟨2, ask⟩) (us := [.int .i64 2, .slice ap ask.length ac, .int .i64 0]) (vs := [.int .i64 4, .slice none 0 0, .int .i64 0]) ⟨ap, ac, rfl, rfl, rfl, hA2⟩ rfl (Rows.one (K := StK) (x := ⟨4, []⟩) ⟨none, 0, rfl, rfl, rfl, Sl.nil _ _ _⟩)
    · simp only [List.mem_cons, List.not_mem_nil, or_false] at hu
      rcases hu with rfl | rfl | rfl | rfl | rfl | rfl <;> rfl
    have f03 : Fr (fun _ => False) w w3 := (f1.trans f2 fun _ h => h.elim).trans f3 fun b hb => .inr (hsp b hb)
    generalize hss : calls.map stp1 ++ [⟨2, ask⟩, ⟨4, []⟩] = ss at O3
    have hsl3 : sl + 2 = ss.length := by rw [← hss]; simp; omega
    have htot : tot ss = calls.flatten.length + ask.length := by rw [← hss, tot_app, tot_calls]; simp [tot]
    have hrun : runA [] ss = runA [] (calls.map stp1) ++ [ansO (ask.map fun x => look x.1 (putAll [] calls.flatten)), ⟨[], [], (putAll [] calls.flatten).length⟩] := by
      rw [← hss, runA_app, runL_calls]; rfl
    rw [hsl3]
    refine F6_call (F6_spec h3 hS O3.sl (fun s hs => ?_) (by omega) (by omega) fun w4 p c hR f4 => back_slice ?_)
    · rw [← hss] at hs
      rcases List.mem_append.1 hs with h | h
      · obtain ⟨c, _, rfl⟩ := List.mem_map.1 h
        exact .inl rfl
      · simp only [List.mem_cons, List.not_mem_nil, or_false] at h
        rcases h with rfl | rfl
        · exact .inr (.inl rfl)
        · exact .inr (.inr rfl)
    have f04 := f03.trans f4 fun _ h => h.elim
    have hne : (((ss.length : Nat) : Int) != ((ss.length : Nat) : Int)) = false := by simp
    rw [hne, BIf_false]
    have hrl : (runA [] (calls.map stp1)).length = calls.length := by rw [runA_length, List.length_map]
    have hg1 : (runA [] ss)[calls.length]? = some (ansO (ask.map fun x => look x.1 (putAll [] calls.flatten))) := by
      rw [hrun, List.getElem?_append_right (by omega), hrl, Nat.sub_self]; rfl
    have hg2 : (runA [] ss)[calls.length + 1]? = some ⟨[], [], (putAll [] calls.flatten).length⟩ := by
      rw [hrun, List.getElem?_append_right (by omega), hrl, Nat.add_sub_cancel_left]; rfl
    have e2 : subI .i64 ((ss.length : Nat) : Int) 2 = ((calls.length : Nat) : Int) := by rw [subI_i64 (by omega) (by omega)]; omega
    have e1 : subI .i64 ((ss.length : Nat) : Int) 1 = ((calls.length + 1 : Nat) : Int) := by rw [subI_i64 (by omega) (by omega)]; omega
    have hil : (ansO (ask.map fun x => look x.1 (putAll [] calls.flatten))).items.length = ask.length := by simp [ansO, Ans.kps]
    have hhl : (ansO (ask.map fun x => look x.1 (putAll [] calls.flatten))).is.length = ask.length := by simp [ansO, Ans.kps]
    obtain ⟨q, o, rfl, pi, ci, ph, ch, c0, c1, c2, hI, hH⟩ := hR.get hg1
    rw [hil] at c0
    rw [hhl] at c1
    have c0 : w4.cell? ⟨q, o + calls.length * 3, none⟩ = some (.slice pi ask.length ci) := c0
    have c1 : w4.cell? ⟨q, o + calls.length * 3 + 1, none⟩ = some (.slice ph ask.length ch) := c1
    rw [e2]
    simp only [NN_mk, Int.toNat_natCast, add_mk]
    refine ⟨by omega, LoadT_slice.2 ⟨_, _, _, c0, ?_⟩⟩
    rw [show (((ask.length : Nat) : Int) != ((ask.length : Nat) : Int)) = false by simp, BIf_false]
    refine ⟨by omega, LoadT_slice.2 ⟨_, _, _, c1, ?_⟩⟩
    rw [show (((ask.length : Nat) : Int) != ((ask.length : Nat) : Int)) = false by simp]
    unfold F5_J1
    rw [BIf_false]
    refine drw_intro fun w5 f5 z5 => ?_
    obtain ⟨q', o', hqo, _, _, _, _, _, _, d2, _⟩ := (hR.fr0 f5).get hg2
    obtain ⟨rfl, rfl⟩ : q = q' ∧ o = o' := by simpa using hqo
    have d2 : w5.cell? ⟨q, o + (calls.length + 1) * 3 + 2, none⟩ = some (.int .u64 (((putAll [] calls.flatten).length : Nat) : Int)) := d2
    have c05 : w5.cell? ⟨q, o + calls.length * 3, none⟩ = some (.slice pi ask.length ci) := by rw [f5.cell (cell_lt c0) id]; exact c0
    have c15 : w5.cell? ⟨q, o + calls.length * 3 + 1, none⟩ = some (.slice ph ask.length ch) := by rw [f5.cell (cell_lt c1) id]; exact c1
    rw [e2, e1]
    simp only [NN_mk, Int.toNat_natCast, add_mk]
    refine ⟨by omega, LoadT_slice.2 ⟨_, _, _, c05, ⟨by omega, LoadT_slice.2 ⟨_, _, _, c15, ⟨by omega, LoadT_int.2 ⟨_, d2, ?_⟩⟩⟩⟩⟩⟩
    refine hk w5 pi ci ph ch ?_ ?_ (f04.trans f5 fun _ h => h.elim)
    · have := hI.fr0 f5
      have e : (ansO (ask.map fun x => look x.1 (putAll [] calls.flatten))).items = ask.map fun x => (look x.1 (putAll [] calls.flatten)).getD (0, 0) := by simp [ansO, Ans.kps]
      rw [← e]; exact this
    · have := hH.fr0 f5
      have e : (ansO (ask.map fun x => look x.1 (putAll [] calls.flatten))).is = ask.map fun x => (look x.1 (putAll [] calls.flatten)).isSome := by simp [ansO, Ans.kps]
      rw [← e]; exact this
end
end Go.Proofs.Ytofnapddoiodkaa.E
