/-
  The law of the two trees, walked.
-/
import Derived.Test.YtokejbejoegnnaaAvA
namespace Go.Proofs.Ytokejbejoegnnaa.E
open Go Tr
set_option linter.unusedSimpArgs false
set_option linter.unusedVariables false
set_option maxRecDepth 100000
set_option maxHeartbeats 4000000

theorem enAll_pos {more : Int} {l : List Int} (h : 0 < l.length) : 0 < (enAll more [] l).length := by
  have h1 : (enAll more [] l).map kx = addAll [] l := enAll_keys more l []
  have h2 : l[0] ∈ addAll [] l := (addAll_mem l).2 (.inr (List.getElem_mem h))
  rw [← h1] at h2
  obtain ⟨x, hx, _⟩ := List.mem_map.1 h2
  exact List.length_pos_of_mem hx
theorem edges_sub {w : World} {p : Option Addr} {l c lo hi : Nat} {xs : List It2} (h : OwnN w 40 2 p l c (flat xs)) : Edges w (sliceA p lo c 2) ((xs.take hi).drop lo) := fun i q hq => by
  rw [List.getElem?_drop, List.getElem?_take] at hq
  split at hq
  · rename_i hlt
    have hl : xs.length = l := by have := h.1; rw [flat_length] at this; omega
    have hi' : lo + i < xs.length := (List.getElem?_eq_some_iff.1 hq).1
    have hlc : l ≤ c := by
      rcases h.2 with ⟨_, h1, _⟩ | ⟨_, _, _, _, _, h1, _⟩ <;> omega
    obtain ⟨a, rfl, h1, h2⟩ := h.pairs (lo + i) q hq
    refine ⟨a.add (lo * 2), by unfold sliceA; rw [if_neg (by omega)]; rfl, ?_, ?_⟩
    · rw [add_add, add_add] at *
      rw [show lo * 2 + (i * 2 + 0) = (lo + i) * 2 + 0 by omega]; exact h1
    · rw [add_add, add_add] at *
      rw [show lo * 2 + (i * 2 + 1) = (lo + i) * 2 + 1 by omega]; exact h2
  · cases hq
theorem Outs.get {w : World} {base c : Nat} {p : Option Addr} {out : List Sd} {i : Nat} {s : Sd} (h : Outs w base p c out) (hs : out[i]? = some s) : ∃ q r, p = some ⟨q, 0, none⟩ ∧ SOk w base r s ∧ ∀ j, j < 3 → w.cell? ⟨q, i * 3 + j, none⟩ = (sdc r)[j]? := by
  obtain ⟨rs, h1, h2, h3, h4⟩ := h
  have hi : i < out.length := (List.getElem?_eq_some_iff.1 hs).1
  have hr : rs[i]? = some (rs[i]'(by omega)) := List.getElem?_eq_getElem _
  obtain ⟨q, rfl, hc⟩ := h1.rec sdc_len (by omega) hr
  exact ⟨q, _, rfl, h4 i _ s hr hs, hc⟩
theorem map_some_inj {LL : List (List It2)} {M : List (List It2)} (h : LL.map some = M.map some) : LL = M := by
  have := congrArg (List.map fun o : Option (List It2) => o.getD []) h
  simpa [List.map_map, Function.comp_def] using this

def Two1 (first one two : List It2) (Ls : List (Option (List It2))) (out : List Sd) : Prop :=
  ∃ L1 L2 L3 v1 v2 v3, Ls = [[], L1, L2, L3].map some ∧ InsAll [] first L1 v1 ∧ InsAll L1 one L2 v2 ∧ InsAll L1 two L3 v3
def Two2 (first two : List It2) (Ls : List (Option (List It2))) (out : List Sd) : Prop :=
  ∃ L1 L3 v1 v3, Ls = [[], L1, L3].map some ∧ InsAll [] first L1 v1 ∧ InsAll L1 two L3 v3
theorem two1 {p1 p2 p3 : Option Addr} {c1 c2 c3 : Nat} {first one two : List It2} (h1 : 0 < first.length ∧ first.length ≤ 30) (h2 : 0 < one.length ∧ one.length ≤ 30) (h3 : 0 < two.length ∧ two.length ≤ 30) :
    After (Two1 first one two) [⟨1, 0, p1, c1, first⟩, ⟨1, 1, p2, c2, one⟩, ⟨1, 1, p3, c3, two⟩] [some []] [] := by
  refine ⟨⟨h1.1, by simp only; omega, by simp, .inl rfl, [], rfl, by simp⟩, fun Ls1 sd1 s1 => ?_⟩
  obtain ⟨L1, v1, rfl, rfl, i1, _⟩ := s1.inv1 rfl rfl
  have l1 := i1.len srt_nil
  have l1b := l1.2.1
  simp only [List.length_nil] at l1b
  refine ⟨⟨h2.1, by simp only; omega, by simp, .inl rfl, L1, rfl, by omega⟩, fun Ls2 sd2 s2 => ?_⟩
  obtain ⟨L2, v2, rfl, rfl, i2, _⟩ := s2.inv1 rfl (L := L1) rfl
  refine ⟨⟨h3.1, by simp only; omega, by simp, .inl rfl, L1, rfl, by omega⟩, fun Ls3 sd3 s3 => ?_⟩
  obtain ⟨L3, v3, rfl, rfl, i3, _⟩ := s3.inv1 rfl (L := L1) rfl
  exact ⟨L1, L2, L3, v1, v2, v3, rfl, i1, i2, i3⟩
theorem two2 {p1 p3 : Option Addr} {c1 c3 : Nat} {first two : List It2} (h1 : 0 < first.length ∧ first.length ≤ 30) (h3 : 0 < two.length ∧ two.length ≤ 30) :
    After (Two2 first two) [⟨1, 0, p1, c1, first⟩, ⟨1, 1, p3, c3, two⟩] [some []] [] := by
  refine ⟨⟨h1.1, by simp only; omega, by simp, .inl rfl, [], rfl, by simp⟩, fun Ls1 sd1 s1 => ?_⟩
  obtain ⟨L1, v1, rfl, rfl, i1, _⟩ := s1.inv1 rfl rfl
  have l1 := i1.len srt_nil
  have l1b := l1.2.1
  simp only [List.length_nil] at l1b
  refine ⟨⟨h3.1, by simp only; omega, by simp, .inl rfl, L1, rfl, by omega⟩, fun Ls3 sd3 s3 => ?_⟩
  obtain ⟨L3, v3, rfl, rfl, i3, _⟩ := s3.inv1 rfl (L := L1) rfl
  exact ⟨L1, L3, v1, v3, rfl, i1, i3⟩

/-- The law. -/
theorem F5_spec {k : Value → W} {w : World} {p1 p2 p3 : Option Addr} {l1 c1 l2 c2 l3 c3 : Nat} {x y z : List Int} (hX : Shorts w p1 x) (hl1 : l1 = x.length) (hx : I16 x) (hY : Shorts w p2 y) (hl2 : l2 = y.length) (hy : I16 y) (hZ : Shorts w p3 z) (hl3 : l3 = z.length) (hz : I16 z)
    (hk : ∀ w', Fr (fun _ => False) w w' → k (.bool true) w') : F5 k p1 l1 c1 p2 l2 c2 p3 l3 c3 w := by
  have hw := hk w (Fr.refl _ _)
  subst hl1; subst hl2; subst hl3
  unfold F5
  refine BIf_intro (fun _ => hw) fun _ => BIf_intro (fun _ => hw) fun _ => BIf_intro (fun _ => hw) fun _ => ?_
  refine F7_call (F7_spec (back_bool hw) fun a1 b1 => back_bool ?_)
  simp only [Bool.not_true, BIf_false]
  refine F7_call (F7_spec (back_bool hw) fun a2 b2 => back_bool ?_)
  simp only [Bool.not_true, BIf_false]
  refine F7_call (F7_spec (back_bool hw) fun a3 b3 => back_bool ?_)
  simp only [Bool.not_true, BIf_false]
  have lf := enAll_len 0 x
  have lo := enAll_len 100 y
  have lt := enAll_len 200 z
  have pf := enAll_pos (more := 0) a1
  have po := enAll_pos (more := 100) a2
  have pt := enAll_pos (more := 200) a3
  have nf := enAll_nodup 0 x
  have no := enAll_nodup 100 y
  have nt := enAll_nodup 200 z
  refine F12_call (F12_spec (more := 0) hX rfl (by omega) hx (by omega) fun q7 d7 w1 o7 h7 f1 => back_slice ?_)
  refine F12_call (F12_spec (more := 100) (hY.fr0 f1) rfl (by omega) hy (by omega) fun q8 d8 w2 o8 h8 f2 => back_slice ?_)
  refine F12_call (F12_spec (more := 200) ((hZ.fr0 f1).fr0 f2) rfl (by omega) hz (by omega) fun q9 d9 w3 o9 h9 f3 => back_slice ?_)
  have f03 := (f1.trans f2 fun _ h => h.elim).trans f3 fun _ h => h.elim
  have o7 := (o7.fr f2 fun _ _ h => h).fr f3 fun _ _ h => h
  have o8 := o8.fr f3 fun _ _ h => h
  clear h7 h8 h9
  generalize enAll 0 [] x = first at *
  generalize enAll 100 [] y = one at *
  generalize enAll 200 [] z = two at *
  refine F15_call (F15_spec o7.pairs rfl pf (by omega) fun q10 d10 w4 o10 h10 f4 => back_slice ?_)
  refine app37 o10 rfl (o8.fr f4 fun _ _ h => h).pairs rfl po (by omega) fun q11 d11 w5 o11 h11 f5 => ?_
  have F5 : Fr (fun _ => False) w3 w5 := f4.trans f5 fun b hb => .inr (h10 b hb)
  have h11' : ∀ b, bl q11 b → w3.heap.size ≤ b := fun b hb => (h11 b hb).elim (h10 b) fun h => by have := f4.size; omega
  rw [← List.length_append]
  refine app37 o11 rfl (o9.fr F5 fun _ _ h => h).pairs rfl pt (by simp; omega) fun q12 d12 w6 o12 h12 f6 => ?_
  have F6 : Fr (fun _ => False) w3 w6 := F5.trans f6 fun b hb => .inr (h11' b hb)
  rw [← List.length_append]
  -- the keys
  generalize hall : first ++ one ++ two = all at *
  have hallen : all.length = first.length + one.length + two.length := by rw [← hall]; simp; omega
  have E6 := o12.pairs
  refine F5_L1_rule (fun ap al ac bp bl' bc cp cl cc kp kl kc sp sl sc x18 x19 w' => ap = q7 ∧ al = first.length ∧ ac = d7 ∧ bp = q8 ∧ bl' = one.length ∧ bc = d8 ∧ cp = q9 ∧ cl = two.length ∧ cc = d9 ∧ sp = q12 ∧ sl = all.length ∧ x18 = (all.length : Nat) ∧ ∃ i : Nat, x19 = i ∧ i ≤ all.length ∧ kl = i ∧ Own w' 3 kp i kc (ints ((all.take i).map kx)) ∧ (∀ b, bl kp b → w6.heap.size ≤ b) ∧ Fr (fun _ => False) w6 w')
    (fun _ _ _ _ _ _ _ _ _ _ _ _ _ _ _ x18 x19 _ => (x18 - x19).toNat) ?_ ⟨rfl, rfl, rfl, rfl, rfl, rfl, rfl, rfl, rfl, rfl, rfl, rfl, 0, rfl, Nat.zero_le _, rfl, Own.nil _ _, fun b hb => (by obtain ⟨a, h, _⟩ := hb; cases h), Fr.refl _ _⟩
  rintro ap al ac bp bl' bc cp cl cc kp kl kc sp sl sc x18 x19 w7 ⟨rfl, rfl, rfl, rfl, rfl, rfl, rfl, rfl, rfl, rfl, rfl, rfl, i, rfl, hi, e5, o13, h13, f7⟩
  obtain rfl := e5.symm
  unfold F5_L1
  by_cases hil : i < all.length
  · rw [decide_eq_true (by omega)]
    have hget : all[i]? = some (all[i]'(by omega)) := List.getElem?_eq_getElem _
    generalize all[i]'(by omega) = e at hget
    obtain ⟨a, rfl, e1, e2⟩ := E6.fr0 f7 i e hget
    simp only [BIf_true, NN_mk, Int.toNat_natCast]
    refine ⟨by omega, LoadT_int.2 ⟨_, e1, LoadT_int.2 ⟨_, e2, ?_⟩⟩⟩
    refine new_intro fun n w8 e8 b8 f8 z8 => ?_
    refine store_intro (i := 0) b8 (by simp) rfl fun w9 b9 f9 z9 => ?_
    refine store_intro (i := 1) b9 (by simp) rfl fun wa ba fa za => ?_
    refine load_int (i := 0) ba rfl ?_
    have f7a : Fr (fun _ => False) w7 wa := (f8.trans f9 fun b h => .inr (by have : b = n := h; omega)).trans fa fun b h => .inr (by have : b = n := h; omega)
    obtain ⟨jj, g1, g2, g3, g4⟩ := inf3'
    refine append1 (P := Try.prog) und24' g1 g2 g3 rfl (by omega) (o13.fr f7a fun _ _ h => h) rfl rfl (by omega) fun p' c' wb fb ob hp' hs' => ?_
    rw [add_one (by omega)]
    have f6a := f7.trans f7a fun _ h => h.elim
    refine ⟨⟨(by trivial), (by trivial), (by trivial), (by trivial), (by trivial), (by trivial), (by trivial), (by trivial), (by trivial), (by trivial), (by trivial), (by trivial), i + 1, rfl, by omega, (by trivial), ?_, fun b hb => (hp' b hb).elim (h13 b) fun h => by have := f6a.size; omega, f6a.trans fb fun b hb => .inr (h13 b hb)⟩, by omega⟩
    rw [take_snoc hget, List.map_append, ints_append]
    exact ob
  have : i = all.length := by omega
  subst this
  rw [decide_eq_false (by omega)]
  simp only [BIf_false]
  rw [List.take_length] at o13
  generalize hks : all.map kx = ks at *
  have hkl : ks.length = all.length := by rw [← hks]; simp
  have F7 : Fr (fun _ => False) w3 w7 := F6.trans f7 fun _ h => h.elim
  have eF := o7.pairs; have eO := o8.pairs; have eT := o9.pairs
  obtain ⟨ii, g1, g2, g3, g4⟩ := inf46
  refine build_intro und47 g1 g2 (by omega) (by omega) (fill47_3 ⟨1, 0, ap, ac, first⟩ ⟨1, 1, bp, bc, one⟩ ⟨1, 1, cp, cc, two⟩ ii g3) fun w8 f8 b8 z8 => ?_
  have F8 := F7.trans f8 fun _ h => h.elim
  have S8 : StM w8 (some ⟨w7.heap.size, 0, none⟩) [⟨1, 0, ap, ac, first⟩, ⟨1, 1, bp, bc, one⟩, ⟨1, 1, cp, cc, two⟩] := stM_of (fun i s j hs hj => b8.rec stc_len hs hj) fun s hs => by
    simp only [List.mem_cons, List.not_mem_nil, or_false] at hs
    rcases hs with rfl | rfl | rfl
    · exact eF.fr0 F8
    · exact eO.fr0 F8
    · exact eT.fr0 F8
  refine F16_call (F16_spec' [⟨1, 0, ap, ac, first⟩, ⟨1, 1, bp, bc, one⟩, ⟨1, 1, cp, cc, two⟩] rfl ks (Two1 first one two) S8 (by simp) (o13.fr f8 fun _ _ h => h).ints hkl.symm (by omega) (two1 ⟨pf, by omega⟩ ⟨po, by omega⟩ ⟨pt, by omega⟩) (fun Ls out hQ => ?_) fun op oc w9 LL out hQ O9 f9 => back_slice ?_)
  · obtain ⟨L1, L2, L3, v1, v2, v3, rfl, i1, i2, i3⟩ := hQ
    have m1 := i1.len srt_nil
    have m2 := i2.len m1.1
    have m3 := i3.len m1.1
    simp only [List.length_nil] at m1
    refine ⟨_, rfl, fun L hL => ?_⟩
    simp only [List.mem_cons, List.not_mem_nil, or_false] at hL
    rcases hL with rfl | rfl | rfl | rfl
    · simp
    · omega
    · omega
    · omega
  obtain ⟨L1, L2, L3, v1, v2, v3, hLL, i1, i2, i3⟩ := hQ
  have hLL := map_some_inj hLL
  subst hLL
  have F9 := F8.trans f9 fun _ h => h.elim
  refine build_intro und47 g1 g2 (by omega) (by omega) (fill47_2 ⟨1, 0, ap, ac, first⟩ ⟨1, 1, cp, cc, two⟩ ii g3) fun wa fa ba za => ?_
  have Fa := F9.trans fa fun _ h => h.elim
  have Sa : StM wa (some ⟨w9.heap.size, 0, none⟩) [⟨1, 0, ap, ac, first⟩, ⟨1, 1, cp, cc, two⟩] := stM_of (fun i s j hs hj => ba.rec stc_len hs hj) fun s hs => by
    simp only [List.mem_cons, List.not_mem_nil, or_false] at hs
    rcases hs with rfl | rfl
    · exact eF.fr0 Fa
    · exact eT.fr0 Fa
  refine F16_call (F16_spec' [⟨1, 0, ap, ac, first⟩, ⟨1, 1, cp, cc, two⟩] rfl ks (Two2 first two) Sa (by simp) (((o13.fr f8 fun _ _ h => h).fr f9 fun _ _ h => h).fr fa fun _ _ h => h).ints hkl.symm (by omega) (two2 ⟨pf, by omega⟩ ⟨pt, by omega⟩) (fun Ls out hQ => ?_) fun op2 oc2 wb MM out2 hQ2 Ob fb => back_slice ?_)
  · obtain ⟨L1, L3, v1, v3, rfl, i1, i3⟩ := hQ
    have m1 := i1.len srt_nil
    have m3 := i3.len m1.1
    simp only [List.length_nil] at m1
    refine ⟨_, rfl, fun L hL => ?_⟩
    simp only [List.mem_cons, List.not_mem_nil, or_false] at hL
    rcases hL with rfl | rfl | rfl
    · simp
    · omega
    · omega
  obtain ⟨M1, M3, u1, u3, hMM, j1, j3⟩ := hQ2
  have hMM := map_some_inj hMM
  subst hMM
  have Fb := Fa.trans fb fun _ h => h.elim
  -- plain
  have same1 := i1.look j1 srt_nil srt_nil (fun _ => rfl) rfl
  have sL1 := (i1.len srt_nil).1
  have sM1 := (j1.len srt_nil).1
  have same3 := i3.look j3 sL1 sM1 same1.1 same1.2
  have hlen1 : L1.length = first.length := by
    have := ((i1.keys srt_nil nf).2.2 fun e _ => rfl).1
    simpa using this
  have hone : ∀ e ∈ one, look L2 (kx e) = some e := (i2.keys sL1 no).1
  rw [show (((([[], L1, L2, L3] : List (List It2)).length : Nat) : Int) != 4) = false from rfl]
  simp only [BIf_false]
  rw [show (((([[], M1, M3] : List (List It2)).length : Nat) : Int) != 3) = false from rfl]
  simp only [BIf_false]
  have Ob9 := (O9.fr0 fa).fr0 fb
  obtain ⟨qk, r2, rfl, R2, C2⟩ := Ob9.get (i := 2) rfl
  obtain ⟨qk', r1, hq1, R1, C1⟩ := Ob9.get (i := 1) rfl
  cases hq1
  obtain ⟨qk', r0, hq0, R0, C0⟩ := Ob9.get (i := 0) rfl
  cases hq0
  obtain ⟨qk', r3, hq3, R3, C3⟩ := Ob9.get (i := 3) rfl
  cases hq3
  obtain ⟨qm, t1, rfl, T1, D1⟩ := Ob.get (i := 1) rfl
  obtain ⟨qm', t2, hq2, T2, D2⟩ := Ob.get (i := 2) rfl
  cases hq2
  simp only [NN_mk]
  refine ⟨by simp, LoadT_slice.2 ⟨_, _, _, C2 1 (by omega), ?_⟩⟩
  have hkm : ∀ L : List It2, (ks.map fun x => look L x).length = all.length := fun L => by rw [List.length_map, hkl]
  rw [show ((((r2.sl : Nat) : Int)) != ((all.length : Nat) : Int)) = false by rw [R2.sl]; simp only [hkm]; simp]
  simp only [BIf_false, NN_mk]
  refine ⟨by simp, LoadT_int.2 ⟨_, C1 0 (by omega), ?_⟩⟩
  rw [show (r1.n != ((first.length : Nat) : Int)) = false by rw [R1.n]; simp [hlen1]]
  simp only [BIf_false, NN_mk]
  refine ⟨by simp, LoadT_int.2 ⟨_, C0 0 (by omega), ?_⟩⟩
  rw [show (r0.n != 0) = false by rw [R0.n]; simp]
  simp only [BIf_false]
  refine drw_intro fun wc fc zc => ?_
  try simp only [NN_mk]
  have kc : ∀ {a v w'}, wb.cell? a = some v → Fr (fun _ => False) wb w' → w'.cell? a = some v := fun h f => by rw [f.cell (cell_lt h) id]; exact h
  have CC : ∀ {w'}, Fr (fun _ => False) wb w' → (w'.cell? ⟨qk, 3, none⟩ = some (.int .i64 r1.n) ∧ w'.cell? ⟨qk, 4, none⟩ = some (.slice r1.sp r1.sl r1.sc) ∧ w'.cell? ⟨qk, 5, none⟩ = some (.slice r1.hp r1.hl r1.hc)) ∧ (w'.cell? ⟨qm, 3, none⟩ = some (.int .i64 t1.n) ∧ w'.cell? ⟨qm, 4, none⟩ = some (.slice t1.sp t1.sl t1.sc) ∧ w'.cell? ⟨qm, 5, none⟩ = some (.slice t1.hp t1.hl t1.hc)) ∧ (w'.cell? ⟨qk, 9, none⟩ = some (.int .i64 r3.n) ∧ w'.cell? ⟨qk, 10, none⟩ = some (.slice r3.sp r3.sl r3.sc) ∧ w'.cell? ⟨qk, 11, none⟩ = some (.slice r3.hp r3.hl r3.hc)) ∧ (w'.cell? ⟨qm, 6, none⟩ = some (.int .i64 t2.n) ∧ w'.cell? ⟨qm, 7, none⟩ = some (.slice t2.sp t2.sl t2.sc) ∧ w'.cell? ⟨qm, 8, none⟩ = some (.slice t2.hp t2.hl t2.hc)) ∧ w'.cell? ⟨qk, 7, none⟩ = some (.slice r2.sp r2.sl r2.sc) := fun f =>
    ⟨⟨kc (C1 0 (by omega)) f, kc (C1 1 (by omega)) f, kc (C1 2 (by omega)) f⟩, ⟨kc (D1 0 (by omega)) f, kc (D1 1 (by omega)) f, kc (D1 2 (by omega)) f⟩, ⟨kc (C3 0 (by omega)) f, kc (C3 1 (by omega)) f, kc (C3 2 (by omega)) f⟩, ⟨kc (D2 0 (by omega)) f, kc (D2 1 (by omega)) f, kc (D2 2 (by omega)) f⟩, kc (C2 1 (by omega)) f⟩
  obtain ⟨⟨a1, a2, a3⟩, ⟨b1, b2, b3⟩, _⟩ := CC fc
  refine ⟨by simp, LoadT_int.2 ⟨_, a1, LoadT_slice.2 ⟨_, _, _, a2, LoadT_slice.2 ⟨_, _, _, a3, ?_⟩⟩⟩⟩
  refine ⟨by simp, LoadT_int.2 ⟨_, b1, LoadT_slice.2 ⟨_, _, _, b2, LoadT_slice.2 ⟨_, _, _, b3, ?_⟩⟩⟩⟩
  have hb9 : w8.heap.size ≤ wa.heap.size := by have := f9.size; have := fa.size; omega
  refine F17_call (F17_spec (R1.fr0 fc) ((T1.weak hb9).fr0 fc) (by simp only [hkm]; omega) fun wd fd => back_bool ?_)
  have hs1 : L1.length = M1.length ∧ hass (ks.map fun x => look L1 x) = hass (ks.map fun x => look M1 x) ∧ svals (ks.map fun x => look L1 x) = svals (ks.map fun x => look M1 x) := by
    have : (ks.map fun x => look L1 x) = ks.map fun x => look M1 x := List.map_congr_left fun x _ => same1.1 x
    rw [this]; exact ⟨same1.2, rfl, rfl⟩
  rw [decide_eq_true hs1]
  simp only [BIf_true, NN_mk]
  have fbd := fc.trans fd fun _ h => h.elim
  obtain ⟨_, _, ⟨a1, a2, a3⟩, ⟨b1, b2, b3⟩, _⟩ := CC fbd
  refine ⟨by simp, LoadT_int.2 ⟨_, a1, LoadT_slice.2 ⟨_, _, _, a2, LoadT_slice.2 ⟨_, _, _, a3, ?_⟩⟩⟩⟩
  refine ⟨by simp, LoadT_int.2 ⟨_, b1, LoadT_slice.2 ⟨_, _, _, b2, LoadT_slice.2 ⟨_, _, _, b3, ?_⟩⟩⟩⟩
  refine F17_call (F17_spec (R3.fr0 fbd) ((T2.weak hb9).fr0 fbd) (by simp only [hkm]; omega) fun we fe => back_bool ?_)
  have hs3 : L3.length = M3.length ∧ hass (ks.map fun x => look L3 x) = hass (ks.map fun x => look M3 x) ∧ svals (ks.map fun x => look L3 x) = svals (ks.map fun x => look M3 x) := by
    have : (ks.map fun x => look L3 x) = ks.map fun x => look M3 x := List.map_congr_left fun x _ => same3.1 x
    rw [this]; exact ⟨same3.2, rfl, rfl⟩
  rw [decide_eq_true hs3]
  have fbe := fbd.trans fe fun _ h => h.elim
  obtain ⟨⟨a1, a2, a3⟩, ⟨b1, b2, b3⟩, ⟨a4, a5, a6⟩, ⟨b4, b5, b6⟩, a7⟩ := CC fbe
  refine ⟨b1, b2, b3, a1, a2, a3, ?_⟩
  simp only [BIf_true, NN_mk]
  refine ⟨by simp, LoadT_slice.2 ⟨_, _, _, a7, ?_⟩⟩
  have hadd : addI .i64 ((first.length : Nat) : Int) ((one.length : Nat) : Int) = ((first.length + one.length : Nat) : Int) := by rw [addI_i64 (by omega) (by omega)]; omega
  rw [hadd]
  simp only [Int.toNat_natCast]
  have hsaid := (R2.fr0 fbe).said
  have hvl : (svals (ks.map fun x => look L2 x)).length = all.length := by simp only [svals, List.length_map, hkl]
  have hcap : all.length ≤ r2.sc := by
    rcases hsaid.2 with ⟨_, h1, _⟩ | ⟨_, _, _, _, _, h1, _⟩
    · simp only [hkm] at h1; omega
    · simp only [hkm] at h1; exact h1
  refine ⟨by omega, by omega, ?_⟩
  have hsub : ((svals (ks.map fun x => look L2 x)).take (first.length + one.length)).drop first.length = one := by
    rw [← hks, ← hall]
    simp only [svals, List.map_append, List.map_map]
    rw [List.take_append_of_le_length (by simp), List.take_of_length_le (by simp), List.drop_append_of_le_length (by simp), List.drop_of_length_le (by simp), List.nil_append]
    refine List.ext_getElem? fun i => ?_
    rw [List.getElem?_map]
    cases hi : one[i]? with
    | none => rfl
    | some e =>
      have := hone e (List.mem_of_getElem? hi)
      simp only [Option.map_some, Function.comp_apply, this, val, Option.getD_some]
  have hE : Edges we (sliceA r2.sp first.length r2.sc 2) one := by
    have := edges_sub (lo := first.length) (hi := first.length + one.length) hsaid
    rwa [hsub] at this
  refine F18_call (F18_spec (xs := one) (ys := one) hE ((eO.fr0 Fb).fr0 fbe) (by omega) rfl (by omega) fun wf ff => back_bool ?_)
  have fbf := fbe.trans ff fun _ h => h.elim
  obtain ⟨⟨a1, a2, a3⟩, ⟨b1, b2, b3⟩, ⟨a4, a5, a6⟩, ⟨b4, b5, b6⟩, a7⟩ := CC fbf
  refine ⟨a7, b4, b5, b6, a4, a5, a6, b1, b2, b3, a1, a2, a3, ?_⟩
  rw [decide_eq_true rfl]
  exact hk wf ((f03.trans Fb fun _ h => h.elim).trans fbf fun _ h => h.elim)
end Go.Proofs.Ytokejbejoegnnaa.E
