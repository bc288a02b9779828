/-
  FnXFDeepMany and FnXYDeepMany, walked.
-/
import Derived.Test.YtaacaokocamlcaaDoorLD
namespace Go.Proofs.YtaacaokocamlcaaDoor.E
open Go
set_option linter.unusedSimpArgs false
set_option linter.unusedVariables false
set_option maxRecDepth 100000
set_option maxHeartbeats 8000000

theorem back_ss {f : Option Addr → Nat → Nat → Option Addr → Nat → Nat → W} {p p' : Option Addr} {l c l' c' : Nat} {w : World} (h : f p l c p' l' c' w) : Back (.tup [(.one .slice), (.one .slice)]) f (.returned (.tuple #[.slice p l c, .slice p' l' c'])) w := ⟨((p, l, c), (p', l', c'), ()), rfl, h⟩
theorem F3_spec {k : Value → W} {w : World} {size : Int} {first b many0 cut : Nat} (Ta : Tabs w) (h0 : 0 ≤ size) (hf : first < 18446744073709551616) (hb : b < 18446744073709551616) (hm : many0 < 65536) (hc : cut < 256)
    (hk : ∀ w', Fr (fun _ => False) w w' → k (.bool true) w') : F3 k size (first : Nat) (b : Nat) (many0 : Nat) (cut : Nat) w := by
  unfold F3
  refine F7_call (F7_spec h0 fun B hB => back_int ?_)
  refine F8_call (F8_spec hB hf hb hm hc fun n kk sp sc lp lc w1 hn hn4 hn8 hkk hS hL hsp f1 => back_ss ?_)
  have hodd := or_one_odd b
  generalize hd : b ||| 1 = d at *
  have hD : Dis (its B first d n) := its_dis hB hodd hn4 hn8
  have hoth := its_other (first := first) hB hodd hn4 hn8
  have hlt : ∀ x ∈ its B first d n, x.1 < 2 ^ B := its_lt
  have hlen := its_length B first d n
  have hx0 := its_get (B := B) (first := first) (d := d) hn
  have hkn : kyi B first d n < 2 ^ B := Nat.mod_lt _ (Nat.pow_pos (by decide))
  generalize its B first d n = L at *
  generalize kyi B first d n = kn at *
  generalize ((kyi B first d 0, ((0 + 1 : Nat) : Int)) : Itm) = x0 at hx0
  subst hlen
  obtain ⟨i, g1, g2, g3, g4⟩ := inf33
  refine bld_ky (x := 0) rfl fun m1 w2 e2 b2 s2 f2 z2 => ?_
  refine bld_ky (x := 0) rfl fun m2 w3 e3 b3 s3 f3 z3 => ?_
  refine build_intro und25 g1 g2 (by omega) (by omega) (fill33b _ _ _ _ _ _ _ _ _ _ _ _ _ _ i g3) fun w4 f4 b4 z4 => ?_
  have f14 := (f2.trans f3 fun _ h => h.elim).trans f4 fun _ h => h.elim
  have hS4 := hS.fr0 f14
  have R4 : Rows StK w4 0 ([.int .i64 6, .slice none 0 0, .slice (some ⟨m1, 0, none⟩) 1 1] ++ [.int .i64 7, .slice none 0 0, .slice (some ⟨m2, 0, none⟩) 1 1]) [⟨6, [], [0]⟩, ⟨7, [], [0]⟩] := by
    refine Rows.cons (K := StK) ⟨_, _, _, _, rfl, rfl, rfl, Sl.nil _ _ _, (s2.fr0 f3).fr0 f4⟩ rfl ?_
    exact Rows.one (K := StK) ⟨_, _, _, _, rfl, rfl, rfl, Sl.nil _ _ _, s3.fr0 f4⟩
  refine SlO.append (K := StK) und25 g1 g2 g3 (by decide) rfl g4 (by decide) hS4 (news := [.int .i64 6, .slice none 0 0, .slice (some ⟨m1, 0, none⟩) 1 1, .int .i64 7, .slice none 0 0, .slice (some ⟨m2, 0, none⟩) 1 1]) b4 R4 rfl rfl (fun u hu => ?_) (by omega) fun p' c' w5 f5 o5 hp5 => ?_
  · simp only [List.mem_cons, List.not_mem_nil, or_false] at hu
    rcases hu with rfl | rfl | rfl | rfl | rfl | rfl <;> rfl
  have hL4 := hL.fr0 f14
  have hL5 := hL4.fr f5 hS4.ty (by decide)
  have h2 := Ta.sz
  have f15 : Fr (fun b => bl sp b) w1 w5 := (f14.mono fun _ h => h.elim).trans f5 fun b h => .inl h
  have f05 : Fr (fun _ => False) w w5 := f1.trans f15 fun b hb => .inr (hsp b hb)
  have hlen5 : L.length + 4 + 2 = (many L kk kn ++ [(⟨6, [], [0]⟩ : Stp), ⟨7, [], [0]⟩]).length := by rw [List.length_append, many_length]; rfl
  rw [hlen5] at o5 ⊢
  have hM := many_ops (kk := kk) hlt hkn
  have hlenr : (many L kk kn ++ [(⟨6, [], [0]⟩ : Stp), ⟨7, [], [0]⟩]).length = L.length + 6 := by rw [← hlen5]
  have htot := tot_many L kk kn
  obtain ⟨hrun, hend⟩ := xrun_many L kk kn
  have hans : xrun PSt.new (many L kk kn ++ [⟨6, [], [0]⟩, ⟨7, [], [0]⟩]) = [⟨[], 0, false⟩, ⟨[], 0, false⟩, ⟨[], (PSt.new.insAll L).num, false⟩] ++ L.map (fun x => fnd (PSt.new.insAll L) x.1) ++ [fnd (PSt.new.insAll L) kn] ++ [fndo (PSt.new.insAll L) (PSt.new.insAll L).mn, fndo (PSt.new.insAll L) (PSt.new.insAll L).mx] := by
    rw [xrun_append, hrun, hend]; rfl
  refine F9_call (F9_spec hB (Ta.fr f05 id id) o5.sl (fun s hs => ?_) ?_ (by rw [hlenr]; omega) fun op oc w6 hA hop f6 => back_slice ?_)
  · rcases List.mem_append.1 hs with hs | hs
    · exact ⟨(hM s hs).1.one, (hM s hs).2.1⟩
    · simp only [List.mem_cons, List.not_mem_nil, or_false] at hs
      rcases hs with rfl | rfl
      · exact ⟨.inr (.inr (.inr (.inl rfl))), fun x hx => by cases hx⟩
      · exact ⟨.inr (.inr (.inr (.inr rfl))), fun x hx => by cases hx⟩
  · rw [tot_append]
    show _ + 0 < _
    omega
  have f06 := f05.trans f6 fun _ h => h.elim
  have hL6 := hL5.fr0 f6
  have hlenA : (xrun PSt.new (many L kk kn ++ [⟨6, [], [0]⟩, ⟨7, [], [0]⟩])).length = L.length + 6 := by rw [xrun_length, hlenr]
  rw [hlenr, ← hlenA] at hA ⊢
  have hMF : MF L kn (xrun PSt.new (many L kk kn ++ [⟨6, [], [0]⟩, ⟨7, [], [0]⟩])) := by rw [hans]; exact mf hD hoth
  have hmn : ∀ x, x ∈ L → (∀ y ∈ L, x.1 ≤ y.1) → ∀ a, (xrun PSt.new (many L kk kn ++ [⟨6, [], [0]⟩, ⟨7, [], [0]⟩]))[L.length + 4]? = some a → a.items = [x] := fun x hx hmin a ha => by
    rw [hans, List.getElem?_append_right (by simp)] at ha
    simp only [List.length_append, List.length_cons, List.length_nil, List.length_map] at ha
    rw [show L.length + 4 - (0 + 1 + 1 + 1 + L.length + (0 + 1)) = 0 by omega] at ha
    cases ha
    rw [fndo_least hD hx hmin]
  have hmx : ∀ x, x ∈ L → (∀ y ∈ L, y.1 ≤ x.1) → ∀ a, (xrun PSt.new (many L kk kn ++ [⟨6, [], [0]⟩, ⟨7, [], [0]⟩]))[L.length + 5]? = some a → a.items = [x] := fun x hx hmin a ha => by
    rw [hans, List.getElem?_append_right (by simp)] at ha
    simp only [List.length_append, List.length_cons, List.length_nil, List.length_map] at ha
    rw [show L.length + 5 - (0 + 1 + 1 + 1 + L.length + (0 + 1)) = 1 by omega] at ha
    cases ha
    rw [fndo_most hD hx hmin]
  generalize xrun PSt.new (many L kk kn ++ [⟨6, [], [0]⟩, ⟨7, [], [0]⟩]) = ans at *
  refine drw_intro fun w7 f7 z7 => ?_
  have f07 := f06.trans f7 fun _ h => h.elim
  have hL7 := hL6.fr0 f7
  have hA7 := hA.fr0 f7
  have hle := hL7.le
  obtain ⟨q, o, rfl, c0, c1⟩ := hL7.sl.get hx0
  simp only [NN_mk, add_mk]
  have c0' : w7.cell? ⟨q, o + Int.toNat 0 * 2 + 0, none⟩ = some (.int .u64 (x0.1 : Nat)) := c0
  have c1' : w7.cell? ⟨q, o + Int.toNat 0 * 2 + 1, none⟩ = some (.int .i64 x0.2) := c1
  refine ⟨by omega, LoadT_int.2 ⟨_, c0', LoadT_int.2 ⟨_, c1', ?_⟩⟩⟩
  refine ⟨by omega, LoadT_int.2 ⟨_, c0', LoadT_int.2 ⟨_, c1', ?_⟩⟩⟩
  have hz7 := f07.size
  have main : ∀ n1 n2 wb, n1 ≠ n2 → w7.heap.size ≤ n1 → w7.heap.size ≤ n2 → Fr (fun _ => False) w7 wb → Blk wb n1 35 [.int .u64 (x0.1 : Nat), .int .i64 x0.2] → Blk wb n2 35 [.int .u64 (x0.1 : Nat), .int .i64 x0.2] → F3_J1 k (some ⟨q, o, none⟩) L.length lc op ans.length oc ⟨n1, 0, none⟩ ⟨n2, 0, none⟩ wb := fun n1 n2 wb hne h1 h2 fb b1 b2 => by
    refine F3_J1_spec hne (hL7.sl.fr0 fb) hle.1 (hA7.sl.fr0 fb) hx0 hlenA (by omega) hMF b1 b2 (fun z hz => by have := hL7.lt hz; omega) (fun S w' hS fS => ?_) hmn hmx fun w' f' => hk w' ?_
    · exact hA7.sl.fr0 ((fb.trans fS) fun z hz => .inr (by rcases hS z hz with h | h <;> omega))
    · exact (f07.trans fb fun _ h => h.elim).trans f' fun z hz => .inr (by rcases hz with h | h <;> omega)
  have ck : ∀ {w' : World}, Fr (fun _ => False) w7 w' → w'.cell? ⟨q, o + Int.toNat 0 * 2 + 0, none⟩ = some (.int .u64 (x0.1 : Nat)) ∧ w'.cell? ⟨q, o + Int.toNat 0 * 2 + 1, none⟩ = some (.int .i64 x0.2) := fun f => ⟨(f.cell (cell_lt c0') id).trans c0', (f.cell (cell_lt c1') id).trans c1'⟩
  refine ⟨?_, ?_⟩
  · refine new_intro fun n20 w8 e8 b8 f8 z8 => ?_
    obtain ⟨k0, k1⟩ := ck f8
    refine ⟨k0, k1, k0, k1, ?_⟩
    refine new_intro fun n21 w9 e9 b9 f9 z9 => ?_
    have f79 := f8.trans f9 fun _ h => h.elim
    obtain ⟨k0, k1⟩ := ck f79
    refine ⟨k0, k1, k0, k1, ?_⟩
    refine store_intro (i := 0) (b8.fr f9 id) (by simp) rfl fun wa ba fa za => ?_
    refine store_intro (i := 1) ba (by simp) rfl fun wb bb fb zb => ?_
    have f9b : Fr (fun z => z = n20) w9 wb := fa.trans fb fun z h => .inl h
    have f7b : Fr (fun _ => False) w7 wb := f79.trans f9b fun z h => .inr (by have : z = n20 := h; omega)
    obtain ⟨k0, k1⟩ := ck f7b
    refine ⟨k0, k1, ?_⟩
    have hn : ¬ n21 = n20 := by omega
    refine store_intro (i := 0) (b9.fr f9b hn) (by simp) rfl fun wc bc fc zc => ?_
    refine store_intro (i := 1) bc (by simp) rfl fun wd bd fd zd => ?_
    have fbd : Fr (fun z => z = n21) wb wd := fc.trans fd fun z h => .inl h
    exact main n20 n21 wd (by omega) (by omega) (by omega) (f7b.trans fbd fun z h => .inr (by have : z = n21 := h; omega)) (bb.fr fbd (by show ¬ n20 = n21; omega)) bd
  · refine new_intro fun n62 w8 e8 b8 f8 z8 => ?_
    obtain ⟨k0, k1⟩ := ck f8
    refine ⟨k0, k1, k0, k1, ?_⟩
    refine new_intro fun n63 w9 e9 b9 f9 z9 => ?_
    have f79 := f8.trans f9 fun _ h => h.elim
    obtain ⟨k0, k1⟩ := ck f79
    refine ⟨k0, k1, k0, k1, ?_⟩
    refine store_intro (i := 0) b9 (by simp) rfl fun wa ba fa za => ?_
    refine store_intro (i := 1) ba (by simp) rfl fun wb bb fb zb => ?_
    have f9b : Fr (fun z => z = n63) w9 wb := fa.trans fb fun z h => .inl h
    have f7b : Fr (fun _ => False) w7 wb := f79.trans f9b fun z h => .inr (by have : z = n63 := h; omega)
    obtain ⟨k0, k1⟩ := ck f7b
    refine ⟨k0, k1, ?_⟩
    have hn : ¬ n62 = n63 := by omega
    refine store_intro (i := 0) ((b8.fr f9 id).fr f9b hn) (by simp) rfl fun wc bc fc zc => ?_
    refine store_intro (i := 1) bc (by simp) rfl fun wd bd fd zd => ?_
    have fbd : Fr (fun z => z = n62) wb wd := fc.trans fd fun z h => .inl h
    exact main n63 n62 wd (by omega) (by omega) (by omega) (f7b.trans fbd fun z h => .inr (by have : z = n62 := h; omega)) (bb.fr fbd (by show ¬ n63 = n62; omega)) bd
/-- TRSame, of equal lists. -/
theorem F21_spec {k : Value → W} {w : World} {ap bp : Option Addr} {ac bc : Nat} {xs : List An} (hA : Sl AnK w ap xs) (hB : Sl AnK w bp xs) (hl : xs.length < 4000000000) (hi : ∀ a ∈ xs, a.items.length < 4000000000) (hk : ∀ w', Fr (fun _ => False) w w' → k (.bool true) w') : F21 k ap xs.length ac bp xs.length bc w := by
  unfold F21
  rw [show (((xs.length : Nat) : Int) != ((xs.length : Nat) : Int)) = false by simp]
  simp only [BIf_false]
  refine F21_L1_rule (fun a al ac' b bl' bc' i w' => a = ap ∧ al = xs.length ∧ b = bp ∧ bl' = xs.length ∧ ∃ j : Nat, i = j ∧ j ≤ xs.length ∧ Fr (fun _ => False) w w')
    (fun _ _ _ _ _ _ i _ => ((xs.length : Int) - i).toNat) ?_ ⟨rfl, rfl, rfl, rfl, 0, rfl, Nat.zero_le _, Fr.refl _ _⟩
  rintro a al ac' b bl' bc' i w1 ⟨e1, rfl, e2, rfl, j, rfl, hj, f1⟩
  obtain rfl := e1.symm; obtain rfl := e2.symm
  unfold F21_L1
  by_cases hlt : j < xs.length
  rotate_left
  · rw [decide_eq_false (by omega)]
    simp only [BIf_false]
    exact hk w1 f1
  rw [decide_eq_true (by omega)]
  simp only [BIf_true]
  refine drw_intro fun w2 f2 z2 => ?_
  have f02 := f1.trans f2 fun _ h => h.elim
  have hx : xs[j]? = some xs[j] := List.getElem?_eq_getElem hlt
  have hil := hi _ (List.getElem_mem hlt)
  obtain ⟨q, o, rfl, pi, ci, a0, a1, a2, a3⟩ := (hA.fr0 f02).get hx
  obtain ⟨q', o', rfl, pj, cj, d0, d1, d2, d3⟩ := (hB.fr0 f02).get hx
  generalize xs[j] = v at *
  simp only [NN_mk, Int.toNat_natCast, add_mk]
  refine ⟨by omega, LoadT_int.2 ⟨_, a1, ?_⟩⟩
  refine ⟨by omega, LoadT_int.2 ⟨_, d1, ?_⟩⟩
  rw [show (((v.n : Nat) : Int) != ((v.n : Nat) : Int)) = false by simp]
  simp only [BIf_false]
  refine ⟨by omega, LoadT_bool.2 ⟨_, a2, ?_⟩⟩
  refine ⟨by omega, LoadT_bool.2 ⟨_, d2, ?_⟩⟩
  rw [show (!(v.yes == v.yes)) = false by simp]
  simp only [BIf_false]
  refine ⟨by omega, LoadT_slice.2 ⟨_, _, _, a0, ?_⟩⟩
  refine ⟨by omega, LoadT_slice.2 ⟨_, _, _, d0, ?_⟩⟩
  refine F11_call (F11_spec a3 d3 hil fun w3 f3 => back_bool ?_)
  refine ⟨(f3.cell (cell_lt d2) id).trans d2, (f3.cell (cell_lt a2) id).trans a2, (f3.cell (cell_lt d1) id).trans d1, (f3.cell (cell_lt a1) id).trans a1, ?_⟩
  simp only [Bool.not_true, BIf_false]
  rw [add_one (by omega)]
  exact ⟨⟨(by trivial), (by trivial), (by trivial), (by trivial), j + 1, rfl, hlt, f02.trans f3 fun _ h => h.elim⟩, by omega⟩
theorem it1_len (q : Nat) (o : Option Int) : (it1 q o).length ≤ 1 := by cases o <;> simp [it1]
theorem F6_spec {k : Value → W} {w : World} {size : Int} {first b many0 cut : Nat} (Ta : Tabs w) (h0 : 0 ≤ size) (hf : first < 18446744073709551616) (hb : b < 18446744073709551616) (hm : many0 < 65536) (hc : cut < 256)
    (hk : ∀ w', Fr (fun _ => False) w w' → k (.bool true) w') : F6 k size (first : Nat) (b : Nat) (many0 : Nat) (cut : Nat) w := by
  unfold F6
  refine F7_call (F7_spec h0 fun B hB => back_int ?_)
  refine F8_call (F8_spec hB hf hb hm hc fun n kk sp sc lp lc w1 hn hn4 hn8 hkk hS hL hsp f1 => back_ss ?_)
  have hodd := or_one_odd b
  generalize hd : b ||| 1 = d at *
  have hD : Dis (its B first d n) := its_dis hB hodd hn4 hn8
  have hlt : ∀ x ∈ its B first d n, x.1 < 2 ^ B := its_lt
  have hlen := its_length B first d n
  have hkn : kyi B first d n < 2 ^ B := Nat.mod_lt _ (Nat.pow_pos (by decide))
  generalize its B first d n = L at *
  generalize kyi B first d n = kn at *
  subst hlen
  have hM := many_ops (kk := kk) hlt hkn
  have hml := many_length L kk kn
  have htot := tot_many L kk kn
  obtain ⟨hrun, _⟩ := xrun_many L kk kn
  obtain ⟨ya, yb, hyrun⟩ := yrun_many L kk kn
  have hxl := xrun_length (many L kk kn) PSt.new
  have hyl := yrun_length (many L kk kn) PSt.new
  have hcount := insAll_count L PSt.new hD fun x _ => rfl
  rw [← hml] at hS ⊢
  refine F9_call (F9_spec hB (Ta.fr f1 id id) hS.sl (fun s hs => ⟨(hM s hs).1.one, (hM s hs).2.1⟩) (by omega) (by omega) fun op oc w2 hA hop f2 => back_slice ?_)
  have f02 := f1.trans f2 fun _ h => h.elim
  refine F15_call (F15_spec hB (Ta.fr f02 id id) (hS.sl.fr0 f2) hM (by omega) (by omega) fun yp yc w3 hY hyp f3 => back_slice ?_)
  have f03 := f02.trans f3 fun _ h => h.elim
  have hA3 := hA.fr0 f3
  rw [show ((((many L kk kn).length : Nat) : Int) != (((many L kk kn).length : Nat) : Int)) = false by simp]
  simp only [BIf_false]
  have hleA := hA3.le
  have hleY := hY.le
  have g2 : (xrun PSt.new (many L kk kn))[2]? = some ⟨[], (PSt.new.insAll L).num, false⟩ := by
    rw [hrun, List.append_assoc]; rfl
  obtain ⟨q, o, rfl, pi, ci, a0, a1, a2, a3⟩ := hA3.sl.get g2
  simp only [NN_mk, add_mk]
  refine ⟨by omega, LoadT_int.2 ⟨_, a1, ?_⟩⟩
  have e0 : (PSt.new.insAll L).num = L.length := by rw [hcount]; show 0 + _ = _; omega
  rw [e0, wrap_u64 (by omega) (by omega), show (((L.length : Nat) : Int) != ((L.length : Nat) : Int)) = false by simp]
  simp only [BIf_false]
  refine drw_intro fun w4 f4 z4 => ?_
  refine ⟨by omega, by omega, ?_⟩
  have dA := (hA3.sl.fr0 f4).drop (n := 2) (c := oc) (by omega)
  have dY := (hY.sl.fr0 f4).drop (n := 2) (c := yc) (by omega)
  have eq : (xrun PSt.new (many L kk kn)).drop 2 = (yrun PSt.new (many L kk kn)).drop 2 := by rw [hrun, hyrun]; rfl
  have hdl : (many L kk kn).length - 2 = ((xrun PSt.new (many L kk kn)).drop 2).length := by rw [List.length_drop, hxl]
  rw [← eq] at dY
  rw [hdl]
  refine F21_call (F21_spec dA dY (by rw [List.length_drop, hxl]; omega) (fun a ha => ?_) fun w5 f5 => back_bool ?_)
  · have ha := List.mem_of_mem_drop ha
    rw [hrun] at ha
    simp only [List.mem_append, List.mem_cons, List.not_mem_nil, or_false, List.mem_map] at ha
    rcases ha with ((rfl | rfl | rfl) | ⟨x, hx, rfl⟩) | rfl
    · exact Nat.zero_lt_succ _
    · exact Nat.zero_lt_succ _
    · exact Nat.zero_lt_succ _
    · have := it1_len x.1 ((PSt.new.insAll L).m x.1)
      show (it1 _ _).length < _; omega
    · have := it1_len kn ((PSt.new.insAll L).m kn)
      show (it1 _ _).length < _; omega
  exact hk w5 ((f03.trans f4 fun _ h => h.elim).trans f5 fun _ h => h.elim)
end Go.Proofs.YtaacaokocamlcaaDoor.E
