/-
  The newest tree asked, walked.
-/
import Derived.Test.YtokejbejoegnnaaAvB
namespace Go.Proofs.Ytokejbejoegnnaa.E
open Go Tr
set_option linter.unusedSimpArgs false
set_option linter.unusedVariables false
set_option maxRecDepth 100000
set_option maxHeartbeats 4000000

theorem After.snoc {Q1 Q : List (Option (List It2)) → List Sd → Prop} {s : Stp} (hs : ∀ Ls out, Q1 Ls out → SFit s Ls ∧ ∀ Ls' sd, Step s Ls Ls' sd → Q Ls' (out ++ [sd])) : ∀ {ss : List Stp} {Ls : List (Option (List It2))} {out : List Sd}, After Q1 ss Ls out → After Q (ss ++ [s]) Ls out
  | [], Ls, out, h => hs Ls out h
  | a :: ss, Ls, out, ⟨h1, h2⟩ => ⟨h1, fun Ls' sd hst => After.snoc hs (h2 Ls' sd hst)⟩
theorem F24_spec' {k : Value → W} {w : World} {p : Option Addr} {c n : Nat} (ss : List Stp) (hn : n = ss.length) (Q : List (Option (List It2)) → List Sd → Prop) (hS : StM w p ss) (hl : ss.length ≤ 10) (hA : After Q ss [some []] [])
    (hk : ∀ op oc w' Ls out, Q Ls out → Outs w' w.heap.size op oc out → Fr (fun _ => False) w w' → k (.slice op out.length oc) w') : F24 k p n c w := by
  subst hn; exact F24_spec hS hl hA hk
theorem known_look : ∀ {L : List It2} {vs : List (Option It2)}, InsAll [] [((3, 8) : It2)] L vs → L.length = 1 ∧ look L 3 = some (3, 8) ∧ look L 4 = none := by
  intro L vs h
  have hk := h.keys srt_nil (by decide)
  refine ⟨by have := (hk.2.2 fun e _ => rfl).1; simpa using this, hk.1 (3, 8) (by simp), ?_⟩
  rw [hk.2.1 4 (by decide)]; rfl
def Known2 (Ls : List (Option (List It2))) (out : List Sd) : Prop := ∃ s, out = [s, (1, [some (3, 8), none])]
theorem known2 {p q : Option Addr} {c d : Nat} : After Known2 [⟨1, 0, p, c, [(3, 8)]⟩, ⟨3, 1, q, d, [(3, 0), (4, 0)]⟩] [some []] [] := by
  refine ⟨⟨by simp, by simp, by simp, .inl rfl, [], rfl, by simp⟩, fun Ls1 sd1 s1 => ?_⟩
  obtain ⟨L1, v1, rfl, rfl, i1, _⟩ := s1.inv1 rfl rfl
  obtain ⟨k1, k2, k3⟩ := known_look i1
  refine ⟨⟨by simp, by simp, by simp, .inr (.inr rfl), L1, rfl, by omega⟩, fun Ls2 sd2 s2 => ?_⟩
  obtain ⟨rfl, rfl, _⟩ := s2.inv3 rfl (L := L1) rfl
  exact ⟨_, by simp only [k1, List.map_cons, List.map_nil, kx, k2, k3]; rfl⟩
theorem back_saidb {f : Int → Option Addr → Nat → Nat → Option Addr → Nat → Nat → Bool → W} {r : SdR} {b : Bool} {w : World} (h : f r.n r.sp r.sl r.sc r.hp r.hl r.hc b w) :
    Back (.tup [(.agg [(.int .i64), .slice, .slice]), (.one .bool)]) f (.returned (.tuple #[.agg #[.int .i64 r.n, .slice r.sp r.sl r.sc, .slice r.hp r.hl r.hc], .bool b])) w := ⟨(r.n, (r.sp, r.sl, r.sc), (r.hp, r.hl, r.hc), b, ()), rfl, h⟩
/-- dvAsked. -/
theorem F13_spec {k : Value → W} {w : World} {q c n : Nat} (ss : List Stp) (hn : n = ss.length) {lp : Option Addr} {ll lc : Nat} {es : List It2} (P : List It2 → Prop) (hB : Blk w q 46 (ss.flatMap stc)) (hE : ∀ s ∈ ss, Edges w s.ip s.es) (h0 : 0 < ss.length) (h5 : ss.length ≤ 5) (hL : Edges w lp es) (hl : ll = es.length) (h1 : 0 < es.length) (h6 : es.length ≤ 100)
    (hA : After (fun Ls out => out.length = ss.length ∧ ∃ L, Ls[ss.length % Ls.length]? = some (some L) ∧ L.length ≤ 60 ∧ P L) ss [some []] [])
    (hk : ∀ r L w', P L → SOk w' w.heap.size r (L.length, es.map fun e => look L (kx e)) → Fr (fun _ => False) w w' → k (.tuple #[.agg #[.int .i64 r.n, .slice r.sp r.sl r.sc, .slice r.hp r.hl r.hc], .bool true]) w') : F13 k (some ⟨q, 0, none⟩) n c lp ll lc w := by
  subst hn
  unfold F13
  refine new_intro fun n3 w1 e1 b1 f1 z1 => ?_
  refine new_intro fun n4 w2 e2 b2 f2 z2 => ?_
  refine store_intro (i := 0) b2 (by simp) rfl fun w3 b3 f3 z3 => ?_
  refine store_intro (i := 1) b3 (by simp) rfl fun w4 b4 f4 z4 => ?_
  refine load_int (i := 0) b4 rfl (load_int (i := 1) b4 rfl ?_)
  have hw4 : n4 < w4.heap.size := b4.lt
  have f14 : Fr (fun _ => False) w1 w4 := (f2.trans f3 fun b h => .inr (by have : b = n4 := h; omega)).trans f4 fun b h => .inr (by have : b = n4 := h; omega)
  have b14 := b1.fr f14 id
  have f04 := f1.trans f14 fun _ h => h.elim
  obtain ⟨ii, g1, g2, g3, g4⟩ := inf40
  obtain ⟨jj, j1, j2, j3, j4⟩ := inf46
  refine qS (x := (3, 8)) fun q5 w5 b5 f5 => ?_
  refine build_intro und37 g1 g2 (by omega) (by omega) (fill37_2 (3, 0) (4, 0) ii g3) fun w6 f6 b6 z6 => ?_
  refine build_intro und47 j1 j2 (by omega) (by omega) (fill47_2 ⟨1, 0, some ⟨q5, 0, none⟩, 1, [(3, 8)]⟩ ⟨3, 1, some ⟨w5.heap.size, 0, none⟩, 2, [(3, 0), (4, 0)]⟩ jj j3) fun w7 f7 b7 z7 => ?_
  have f57 := f6.trans f7 fun _ h => h.elim
  have eK : Edges w7 (some ⟨q5, 0, none⟩) [(3, 8)] := (OwnN.made (n := 1) (b5.fr f57 id) rfl (by decide)).pairs
  have eK2 : Edges w7 (some ⟨w5.heap.size, 0, none⟩) [(3, 0), (4, 0)] := (OwnN.made (n := 2) (b6.fr f7 id) rfl (by decide)).pairs
  have S7 : StM w7 (some ⟨w6.heap.size, 0, none⟩) [⟨1, 0, some ⟨q5, 0, none⟩, 1, [(3, 8)]⟩, ⟨3, 1, some ⟨w5.heap.size, 0, none⟩, 2, [(3, 0), (4, 0)]⟩] := stM_of (fun i s j hs hj => b7.rec stc_len hs hj) fun s hs => by
    simp only [List.mem_cons, List.not_mem_nil, or_false] at hs
    rcases hs with rfl | rfl
    · exact eK
    · exact eK2
  refine F24_call (F24_spec' _ rfl Known2 S7 (by simp) known2 fun op oc w8 Ls out hQ O8 f8 => back_slice ?_)
  obtain ⟨s0, rfl⟩ := hQ
  refine drw_intro fun w9 f9 z9 => ?_
  have O9 := O8.fr0 f9
  have f49 : Fr (fun _ => False) w4 w9 := ((f5.trans f57 fun _ h => h.elim).trans f8 fun _ h => h.elim).trans f9 fun _ h => h.elim
  have b49 := b4.fr f49 id
  obtain ⟨qo, r, rfl, R, C⟩ := O9.get (i := 1) rfl
  rw [show (((([s0, (1, [some (3, 8), none])] : List Sd).length : Nat) : Int) != 2) = false from rfl]
  simp only [BIf_false, NN_mk]
  have kc : ∀ {a v w'}, w9.cell? a = some v → Fr (fun _ => False) w9 w' → w'.cell? a = some v := fun h f => by rw [f.cell (cell_lt h) id]; exact h
  have c0 := C 0 (by omega)
  have c1 := C 1 (by omega)
  have c2 := C 2 (by omega)
  refine ⟨by simp, LoadT_int.2 ⟨_, c0, ?_⟩⟩
  rw [show (r.n != 1) = false by rw [R.n]; rfl]
  simp only [BIf_false, NN_mk]
  refine ⟨by simp, LoadT_slice.2 ⟨_, _, _, c1, ?_⟩⟩
  rw [show (((r.sl : Nat) : Int) != 2) = false by rw [R.sl]; rfl]
  simp only [BIf_false, NN_mk]
  refine ⟨by simp, LoadT_slice.2 ⟨_, _, _, c2, ?_⟩⟩
  obtain ⟨hh, h3, h4, h7, h8⟩ := inf4
  refine build_intro (z := .bool false) und26 h3 h4 (by omega) (by omega) (fill26_2 true false hh h7) fun wa fa ba za => ?_
  refine ⟨kc c2 fa, kc c1 fa, kc c0 fa, ?_⟩
  have Ra := R.fr0 fa
  have hsp : ∃ qs rest, r.sp = some ⟨qs, 0, none⟩ ∧ Blk w9 qs 40 (flat (svals [some (3, 8), none]) ++ rest) := by
    obtain ⟨qs, rest, h1, h2⟩ := R.said.get (by simp)
    exact ⟨qs, rest, h1, h2⟩
  refine F14_call ?_
  rw [R.hl]
  refine F14_spec (xs := [true, false]) (ys := [true, false]) Ra.has (Own.ofN (OwnN.made (n := 2) ba rfl (by decide))) (by simp) fun wb fb => back_bool ?_
  have f9b := fa.trans fb fun _ h => h.elim
  refine ⟨kc c1 f9b, kc c0 f9b, ?_⟩
  rw [decide_eq_true rfl]
  simp only [Bool.not_true, BIf_false, NN_mk]
  refine ⟨by simp, LoadT_slice.2 ⟨_, _, _, kc c1 f9b, ?_⟩⟩
  obtain ⟨qs, rest, hqs, hBs⟩ := hsp
  have c1' : w9.cell? ⟨qo, 4, none⟩ = some (.slice (some ⟨qs, 0, none⟩) r.sl r.sc) := by rw [← hqs]; exact c1
  rw [hqs]
  simp only [NN_mk]
  have hBb := hBs.fr f9b id
  have b4b := b49.fr f9b id
  refine ⟨by rw [R.sl]; simp, LoadT_int.2 ⟨3, by show wb.cell? ⟨qs, 0, none⟩ = _; rw [hBb.cell]; rfl, LoadT_int.2 ⟨8, by show wb.cell? ⟨qs, 1, none⟩ = _; rw [hBb.cell]; rfl, ?_⟩⟩⟩
  refine load_int (i := 0) b4b rfl (load_int (i := 1) b4b rfl ?_)
  refine neq40 (a := (3, 8)) (b := (3, 8)) ?_
  rw [decide_eq_true rfl]
  have c2' : w9.cell? ⟨qo, 5, none⟩ = some (.slice r.hp 2 r.hc) := by
    have e : r.hl = 2 := R.hl
    rw [← e]; exact c2
  refine ⟨kc c1' f9b, kc c2' f9b, kc c1' f9b, kc c0 f9b, ?_⟩
  -- the question
  have f0b : Fr (fun _ => False) w wb := (f04.trans f49 fun _ h => h.elim).trans f9b fun _ h => h.elim
  have b3b : Blk wb n3 42 [.int .i64 0, .slice none 0 0, .slice none 0 0] := ((b14.fr f49 id).fr f9b id)
  clear R C c0 c1 c1' c2 c2' hBs hBb Ra kc O9 O8 S7 eK eK2
  unfold F13_J1
  simp only [Bool.not_true, BIf_false]
  subst hl
  have Lb := hL.fr0 f0b
  refine F13_L1_rule (fun sp sl sc lp' ll' lc' a20 ap al ac tp tl tc x23 x24 w' => sp = some ⟨q, 0, none⟩ ∧ sl = ss.length ∧ ll' = es.length ∧ a20 = ⟨n3, 0, none⟩ ∧ tp = lp ∧ tl = es.length ∧ x23 = (es.length : Nat) ∧ ∃ i : Nat, x24 = i ∧ i ≤ es.length ∧ al = i ∧ OwnN w' 40 2 ap i ac (flat ((es.take i).map fun e => (kx e, 0))) ∧ (∀ b, bl ap b → wb.heap.size ≤ b) ∧ Fr (fun _ => False) wb w')
    (fun _ _ _ _ _ _ _ _ _ _ _ _ _ x23 x24 _ => (x23 - x24).toNat) ?_ ⟨rfl, rfl, rfl, rfl, rfl, rfl, rfl, 0, rfl, Nat.zero_le _, rfl, OwnN.nil _ _ _, fun b hb => (by obtain ⟨a, h, _⟩ := hb; cases h), Fr.refl _ _⟩
  rintro sp sl sc lp' ll' lc' a20 ap al ac tp tl tc x23 x24 wc ⟨rfl, rfl, rfl, rfl, etp, rfl, rfl, i, rfl, hi, eal, oc', hcb, fc⟩
  obtain rfl := etp.symm
  unfold F13_L1
  by_cases hil : i < es.length
  · obtain rfl := eal.symm
    rw [decide_eq_true (by omega)]
    have hget : es[i]? = some (es[i]'(by omega)) := List.getElem?_eq_getElem _
    generalize es[i]'(by omega) = e at hget
    obtain ⟨a, rfl, k1, k2⟩ := Lb.fr0 fc i e hget
    simp only [BIf_true, NN_mk, Int.toNat_natCast]
    refine ⟨by omega, LoadT_int.2 ⟨_, k1, LoadT_int.2 ⟨_, k2, ?_⟩⟩⟩
    refine new_intro fun m wd ed bd fd zd => ?_
    refine store_intro (i := 0) bd (by simp) rfl fun we be fe ze => ?_
    refine store_intro (i := 1) be (by simp) rfl fun wf bf ff zf => ?_
    refine load_int (i := 0) bf rfl ?_
    have fcf : Fr (fun _ => False) wc wf := (fd.trans fe fun b h => .inr (by have : b = m := h; omega)).trans ff fun b h => .inr (by have : b = m := h; omega)
    refine qS (x := (e.1, 0)) fun qg wg bg fg => ?_
    refine qSa ((oc'.fr fcf fun _ _ h => h).fr fg fun _ _ h => h) bg (by omega) fun p' c' wh oh hp' kh fh => ?_
    rw [add_one (by omega)]
    have fbg := (fc.trans fcf fun _ h => h.elim).trans fg fun _ h => h.elim
    refine ⟨⟨(by trivial), (by trivial), (by trivial), (by trivial), (by trivial), (by trivial), (by trivial), i + 1, rfl, by omega, (by trivial), by rw [take_snoc hget, List.map_append]; exact oh, fun b hb => (hp' b hb).elim (hcb b) fun h => by have := fbg.size; omega, fbg.trans fh fun b hb => .inr (hcb b hb)⟩, by omega⟩
  have : i = es.length := by omega
  subst this
  rw [decide_eq_false (by omega)]
  simp only [BIf_false]
  rw [List.take_length] at oc'
  generalize hask : (es.map fun e => ((kx e, 0) : It2)) = asks at *
  have hal : al = asks.length := by rw [eal, ← hask]; simp
  have hasl : asks.length = es.length := by rw [← hask]; simp
  clear eal
  subst hal
  have f0c := f0b.trans fc fun _ h => h.elim
  refine F25_call (F25_spec (hB.fr f0c id) h0 (by omega) fun pq cq wd od hqd fd => back_slice ?_)
  refine build_intro und47 j1 j2 (by omega) (by omega) (fill47_1 ⟨3, ss.length, ap, ac, asks⟩ jj j3) fun we fe be ze => ?_
  have hap : Edges wd ap asks := (OwnN.fr (hasl ▸ oc') fd fun _ _ h => h).pairs
  refine append_own (P := Try.prog) und47 j1 j2 j3 (by decide) rfl j4 (od.fr fe fun _ _ h => h) (news := ([⟨3, ss.length, ap, ac, asks⟩] : List Stp).flatMap stc) (m := 1) rfl ?_ (fm_one stc_one _) (by omega) fun p' c' wf ff of hpf => ?_
  · intro j u hj
    rw [add_mk, Nat.zero_add, be.cell]; exact hj
  rw [← List.flatMap_append] at of
  have fdf : Fr (fun _ => False) wd wf ∨ True := .inr trivial
  have fcf : Fr (fun _ => False) wc wf := (fd.trans fe fun _ h => h.elim).trans ff fun b hb => .inr (hqd b hb)
  have f0f := f0c.trans fcf fun _ h => h.elim
  have hapf : Edges wf ap asks := (OwnN.fr (hasl ▸ oc') fcf fun _ _ h => h).pairs
  have hlen1 : (ss ++ [(⟨3, ss.length, ap, ac, asks⟩ : Stp)]).length = ss.length + 1 := by simp
  have Sf : StM wf p' (ss ++ [⟨3, ss.length, ap, ac, asks⟩]) := by
    obtain ⟨qf, _, rfl, _⟩ := of.get (by omega)
    refine stM_of (fun i s j hs hj => ?_) fun s hs => ?_
    · obtain ⟨q', hq', hc'⟩ := of.rec stc_len (by omega) hs
      cases hq'
      exact hc' j hj
    · rcases List.mem_append.1 hs with hs | hs
      · exact (hE s hs).fr0 f0f
      · simp only [List.mem_singleton] at hs; subst hs; exact hapf
  have hA' : After (fun Ls out => ∃ L, P L ∧ out.length = ss.length + 1 ∧ out[ss.length]? = some (L.length, asks.map fun e => look L (kx e))) (ss ++ [⟨3, ss.length, ap, ac, asks⟩]) [some []] [] := by
    refine After.snoc (fun Ls out hq => ?_) hA
    obtain ⟨ho, L, hLs, hLl, hP⟩ := hq
    refine ⟨⟨by simp only; omega, by simp only; omega, by simp only; omega, .inr (.inr rfl), L, hLs, hLl⟩, fun Ls' sd hst => ?_⟩
    obtain ⟨rfl, rfl, _⟩ := hst.inv3 rfl hLs
    exact ⟨L, hP, by simp [ho], by rw [← ho]; simp⟩
  have hlk : ∀ L, (asks.map fun e => look L (kx e)) = es.map fun e => look L (kx e) := fun L => by rw [← hask, List.map_map]; rfl
  refine F24_call (F24_spec' _ hlen1.symm _ Sf (by rw [hlen1]; omega) hA' fun op oc wg Ls out hQ Og fg => back_slice ?_)
  obtain ⟨L, hP, ho, hoL⟩ := hQ
  rw [hlk] at hoL
  obtain ⟨qo, r, rfl, R, C⟩ := Og.get hoL
  rw [show (((out.length : Nat) : Int) != ((ss.length + 1 : Nat) : Int)) = false by rw [ho]; simp]
  simp only [BIf_false, NN_mk, Int.toNat_natCast]
  have ca : ∀ j, ((⟨qo, 0, none⟩ : Addr).add (ss.length * 3)).add j = ⟨qo, ss.length * 3 + j, none⟩ := fun j => by rw [add_mk, add_mk, Nat.zero_add]
  have c0 := C 0 (by omega)
  have c1 := C 1 (by omega)
  have c2 := C 2 (by omega)
  refine ⟨by omega, LoadT_slice.2 ⟨_, _, _, by rw [ca]; exact c2, ?_⟩⟩
  have hml : (es.map fun e => look L (kx e)).length = es.length := List.length_map ..
  rw [show (((r.hl : Nat) : Int) != ((es.length : Nat) : Int)) = false by rw [R.hl]; simp only [hml]; simp]
  simp only [BIf_false, NN_mk, Int.toNat_natCast]
  refine ⟨by omega, LoadT_slice.2 ⟨_, _, _, by rw [ca]; exact c1, ?_⟩⟩
  rw [show (((r.sl : Nat) : Int) != ((es.length : Nat) : Int)) = false by rw [R.sl]; simp only [hml]; simp]
  unfold F13_J2
  simp only [BIf_false, NN_mk, Int.toNat_natCast]
  refine ⟨by omega, LoadT_int.2 ⟨_, by rw [ca]; exact c0, LoadT_slice.2 ⟨_, _, _, by rw [ca]; exact c1, LoadT_slice.2 ⟨_, _, _, by rw [ca]; exact c2, ?_⟩⟩⟩⟩
  have fbg : Fr (fun _ => False) wb wg := (fc.trans fcf fun _ h => h.elim).trans fg fun _ h => h.elim
  have b3g := b3b.fr fbg id
  refine store_intro (i := 0) b3g (by simp) rfl fun wh bh fh zh => ?_
  refine store_intro (i := 1) bh (by simp) rfl fun wi bi fi zi => ?_
  refine store_intro (i := 2) bi (by simp) rfl fun wj bj fj zj => ?_
  refine load_int (i := 0) bj rfl (load_slice (i := 1) bj rfl (load_slice (i := 2) bj rfl ?_))
  have fgj : Fr (fun b => b = n3) wg wj := (fh.trans fi fun b h => .inl h).trans fj fun b h => .inl h
  have hw1 : n3 = w.heap.size := e1
  have hwf := f0f.size
  have hn3 : n3 < w1.heap.size := b1.lt
  have h3f : n3 < wf.heap.size := by have := f14.size; have := f49.size; have := f9b.size; have := fc.size; have := fcf.size; omega
  refine hk r L wj hP ((R.weak (base' := w.heap.size) (by omega)).fr fgj fun b hb =>   .inr ⟨42, [.int .i64 0, .slice none 0 0, .slice none 0 0], (by have h : b = n3 := hb; rw [h]; exact b3g), by decide, by decide⟩) ((f0f.trans fg fun _ h => h.elim).trans fgj fun b hb => .inr (by have h : b = n3 := hb; omega))
end Go.Proofs.Ytokejbejoegnnaa.E
