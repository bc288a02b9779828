/-
  The least entry is dequeued.
-/
import Derived.Test.YtlbeelgfpbkdbaaFh5
namespace Go.Proofs.Ytlbeelgfpbkdbaa.E
open Go
set_option linter.unusedSimpArgs false
set_option linter.unusedVariables false
set_option maxRecDepth 100000
set_option maxHeartbeats 8000000

theorem take_snoc' {α : Type} {l : List α} {i : Nat} {x : α} (h : l[i]? = some x) : l.take (i + 1) = l.take i ++ [x] := take_snoc h
theorem ring_idx {nx pv : Nat → Nat} {V : List Nat} {i c : Nat} (h : Ring nx pv V) (hc : V[i]? = some c) : V[i + 1]? = some (nx c) ∨ (i + 1 = V.length ∧ V[0]? = some (nx c)) := by
  have hi : i < V.length := (List.getElem?_eq_some_iff.1 hc).1
  have hV : V = V.take i ++ c :: V.drop (i + 1) := by
    have := List.getElem?_eq_some_iff.1 hc
    rw [← this.2, List.getElem_cons_drop, List.take_append_drop]
  have hl : (V.take i).length = i := by simp; omega
  generalize V.take i = A at hV hl
  generalize V.drop (i + 1) = B at hV
  subst hV
  have h1 : Ring nx pv (c :: (B ++ A)) := ring_swap (A := A) (B := c :: B) h
  have h2 := (ring_nx h1).1
  cases B with
  | cons b B =>
    left
    rw [← hl, List.getElem?_append_right (by omega)]
    simp only [List.cons_append, List.head_cons] at h2
    rw [show A.length + 1 - A.length = 1 by omega, h2]; rfl
  | nil =>
    right
    refine ⟨by simp [hl], ?_⟩
    cases A with
    | nil => simp only [List.nil_append, List.append_nil, List.head_cons] at h2; rw [h2]; rfl
    | cons a A => simp only [List.nil_append, List.cons_append, List.head_cons] at h2; rw [h2]; rfl
theorem For.del {s s' : St} {D R R' : List Nat} {C : Nat → List Nat} {h : Nat → Nat} (F : For s D R C h) {m : Nat} (hm : m ∈ R) (hpa : s'.pa = fun y => if y ∈ C m then none else s.pa y) (hch : s'.ch = s.ch) (hdg : s'.dg = s.dg) (hCr : ∀ b ∈ D, b ≠ m → Ring s'.nx s'.pv (C b)) (hR : ∀ y, y ∈ R' ↔ (y ∈ R ∧ y ≠ m) ∨ y ∈ C m) (hn : R'.Nodup) : For s' (D.erase m) R' C h := by
  have hmD := (F.Rm m).1 hm
  have hD : ∀ y, y ∈ D.erase m ↔ y ≠ m ∧ y ∈ D := fun y => F.Dn.mem_erase_iff
  have hmC : ∀ b ∈ D, m ∉ C b := fun b hb hc => by have := ((F.Cm b hb m).1 hc).2; rw [hmD.2] at this; cases this
  refine ⟨F.Dn.erase m, hn, fun b hb => F.Cn b ((hD b).1 hb).2, fun y => ?_, fun b hb y => ?_, fun y hy b hyb => ?_, fun b hb => hCr b ((hD b).1 hb).2 ((hD b).1 hb).1, fun b hb => by rw [hch]; exact F.ch b ((hD b).1 hb).2, fun b hb => by rw [hdg]; exact F.dg b ((hD b).1 hb).2, fun y hy b hyb => ?_⟩
  · rw [hR, hD, hpa]
    constructor
    · rintro (⟨h1, h2⟩ | h1)
      · refine ⟨⟨h2, ((F.Rm y).1 h1).1⟩, ?_⟩
        show (if y ∈ C m then none else s.pa y) = none
        split
        · rfl
        · exact ((F.Rm y).1 h1).2
      · refine ⟨⟨fun e => hmC m hmD.1 (e ▸ h1), ((F.Cm m hmD.1 y).1 h1).1⟩, ?_⟩
        show (if y ∈ C m then none else s.pa y) = none
        rw [if_pos h1]
    · rintro ⟨⟨h1, h2⟩, h3⟩
      have h3 : (if y ∈ C m then none else s.pa y) = none := h3
      by_cases hc : y ∈ C m
      · exact .inr hc
      · rw [if_neg hc] at h3; exact .inl ⟨(F.Rm y).2 ⟨h2, h3⟩, h1⟩
  · obtain ⟨hbm, hbD⟩ := (hD b).1 hb
    rw [hD, hpa]
    constructor
    · intro hy
      have h1 := (F.Cm b hbD y).1 hy
      refine ⟨⟨fun e => hmC b hbD (e ▸ hy), h1.1⟩, ?_⟩
      show (if y ∈ C m then none else s.pa y) = some b
      rw [if_neg fun hc => by have := ((F.Cm m hmD.1 y).1 hc).2; rw [h1.2] at this; cases this; exact hbm rfl]
      exact h1.2
    · rintro ⟨⟨h1, h2⟩, h3⟩
      have h3 : (if y ∈ C m then none else s.pa y) = some b := h3
      by_cases hc : y ∈ C m
      · rw [if_pos hc] at h3; cases h3
      · rw [if_neg hc] at h3; exact (F.Cm b hbD y).2 ⟨h2, h3⟩
  · obtain ⟨hym, hyD⟩ := (hD y).1 hy
    rw [hpa] at hyb
    have hyb : (if y ∈ C m then none else s.pa y) = some b := hyb
    by_cases hc : y ∈ C m
    · rw [if_pos hc] at hyb; cases hyb
    · rw [if_neg hc] at hyb
      refine (hD b).2 ⟨fun e => hc ?_, F.pD y hyD b hyb⟩
      rw [← e]
      exact (F.Cm b (F.pD y hyD b hyb) y).2 ⟨hyD, hyb⟩
  · obtain ⟨hym, hyD⟩ := (hD y).1 hy
    rw [hpa] at hyb
    have hyb : (if y ∈ C m then none else s.pa y) = some b := hyb
    by_cases hc : y ∈ C m
    · rw [if_pos hc] at hyb; cases hyb
    · rw [if_neg hc] at hyb; exact F.rk y hyD b hyb

section
variable {k : Value → W} {w00 : World} {hb q vc xm : Nat} {xvs : List Value} {D0 D : List Nat} {pr : Nat → Int} {V : List Nat} {mp : Option Addr}
theorem F20_L3_spec (hDD : ∀ z ∈ D, z ∈ D0) (hxm : xm ∉ D) (ft : ∀ z ∈ D, Fit (pr z)) (hDl : D.length < 1000) (hVn : V.Nodup) (hV0 : 0 < V.length) (hVl : V.length < 1000)
    (hk : ∀ w' m, HP w' hb D pr (some m) → Blk w' xm 69 xvs → Fr (fun z => z = hb ∨ z ∈ D0) w00 w' → k (.tuple #[.pointer mp, .nilIface]) w')
    {w : World} {tp : Option Addr} {tl tc : Nat} {s : St} {R : List Nat} {C : Nat → List Nat} {h : Nat → Nat} {m : Nat} (H : Con w00 w hb D.length q vc xm xvs D0 D pr V 0 tp tl tc none [] s R C h m) :
    Loop [.ptr, .ptr, .slice, .slice, (.int .i64), (.int .i64)] (F20_L3 k) (some ⟨hb, 0, none⟩) mp tp tl tc (some ⟨q, 0, none⟩) V.length vc ((V.length : Nat) : Int) 0 w := by
  refine F20_L3_rule (fun hp' mp' tp tl tc sp sl sc x68 x69 w' => hp' = some ⟨hb, 0, none⟩ ∧ mp' = mp ∧ sp = some ⟨q, 0, none⟩ ∧ sl = V.length ∧ sc = vc ∧ x68 = (V.length : Nat) ∧ ∃ (i : Nat) (ts : List (Option Nat)) (s : St) (R : List Nat) (C : Nat → List Nat) (h : Nat → Nat) (m : Nat), x69 = i ∧ i ≤ V.length ∧ Con w00 w' hb D.length q vc xm xvs D0 D pr V i tp tl tc none ts s R C h m)
    (fun _ _ _ _ _ _ _ _ x68 x69 _ => (x68 - x69).toNat) ?_ ⟨rfl, rfl, rfl, rfl, rfl, rfl, 0, [], s, R, C, h, m, rfl, Nat.zero_le _, H⟩
  rintro hp' mp' tp tl tc sp sl sc x68 x69 w1 ⟨rfl, rfl, rfl, rfl, rfl, rfl, i, ts, s, R, C, h, m, rfl, hi, H⟩
  unfold F20_L3
  by_cases hil : i < V.length
  rotate_left
  · have : i = V.length := by omega
    subst this
    rw [decide_eq_false (by omega)]
    simp only [BIf_false]
    have hmts : some m ∈ ts := by
      rcases H.m4 rfl with h | ⟨h, _⟩
      · exact h
      · omega
    refine hk w1 m ⟨s, R, C, h, H.ms, H.fo, H.rr, H.or, H.pe, H.hd, ft, .inr ⟨m, (H.rm m).2 (.inr (.inl hmts)), rfl, fun y hy => ?_⟩⟩ H.ex H.fr
    obtain ⟨r, hr, hle⟩ := H.fo.root_le H.or hy
    rw [H.pe] at hle
    rcases (H.rm r).1 hr with h1 | h1 | h1
    · rw [List.drop_length] at h1; cases h1
    · have := H.m2 r h1; omega
    · cases h1
  rw [decide_eq_true (by omega)]
  have hget : V[i]? = some (V[i]'(by omega)) := List.getElem?_eq_getElem _
  have hdrop : V.drop i = (V[i]'(by omega)) :: V.drop (i + 1) := List.drop_eq_getElem_cons (by omega)
  generalize V[i]'(by omega) = c at hget hdrop
  simp only [BIf_true, NN_mk, Int.toNat_natCast]
  refine ⟨by omega, LoadT_ptr.2 ⟨some ⟨c, 0, none⟩, by rw [add_mk, Nat.zero_add, H.vs.cell (by omega), List.getElem?_map, hget]; rfl, ?_⟩⟩
  refine F20_L4_spec hDD hxm ft hDl (fun w' tp' tl' tc' ts' s' R' C' h' m' H' hm' => ?_) (w := w1) (c := c) (ts := ts) (s := s) (R := R) (C := C) (h := h) (m := m) (j := i + 1) ⟨H.ms, H.fo, H.rr, H.or, H.pe, H.hd, H.tb, H.tn, H.vs, H.qn, H.ex, fun z => ?_, H.td, fun z hz => ⟨(H.dj z (by rw [hdrop]; exact List.mem_cons_of_mem _ hz)).1, fun e => ?_⟩, fun z hz => ?_, H.mD, H.m2, fun c' hc' => ?_, (fun e => by cases e), H.tlb, H.fr⟩
  · rw [add_one (by omega)]
    exact ⟨⟨(by trivial), (by trivial), (by trivial), (by trivial), (by trivial), (by trivial), i + 1, ts', s', R', C', h', m', rfl, by omega, H'⟩, by omega⟩
  · rw [H.rm z, hdrop]
    simp only [List.mem_cons, Option.some.injEq]
    constructor
    · rintro ((h | h) | h | h)
      · exact .inr (.inr h.symm)
      · exact .inl h
      · exact .inr (.inl h)
      · cases h
    · rintro (h | h | h)
      · exact .inl (.inr h)
      · exact .inr (.inl h)
      · exact .inl (.inl h.symm)
  · cases e
    have hnd : (V.drop i).Nodup := hVn.sublist (List.drop_sublist ..)
    rw [hdrop] at hnd
    exact (List.nodup_cons.1 hnd).1 hz
  · cases hz
    exact (H.dj c (by rw [hdrop]; simp)).1
  · cases hc'
    rcases H.m4 rfl with h1 | ⟨h1, h2, h3⟩
    · exact .inr h1
    · subst h1
      rw [hget] at h3; cases h3
      exact .inl (Int.le_refl _)
/-- What is brought together, from the least root's ring on. -/
theorem F20_L2_spec (hDD : ∀ z ∈ D, z ∈ D0) (hxm : xm ∉ D) (ft : ∀ z ∈ D, Fit (pr z)) (hDl : D.length < 1000) (hVn : V.Nodup) (hV0 : 0 < V.length) (hVl : V.length < 1000)
    (hk : ∀ w' m, HP w' hb D pr (some m) → Blk w' xm 69 xvs → Fr (fun z => z = hb ∨ z ∈ D0) w00 w' → k (.tuple #[.pointer mp, .nilIface]) w')
    {w w1 : World} {tp vp : Option Addr} {tc vcap : Nat} {s : St} {R : List Nat} {C : Nat → List Nat} {h : Nat → Nat} {m : Nat}
    (hms : MS w1 D s) (F : For s D R C h) (or : Ordd s D) (hpe : s.pr = pr) (hRV : ∀ z, z ∈ R ↔ z ∈ V) (rV : Ring s.nx s.pv V) (hR : Ring s.nx s.pv R) (hV : V[0]? = some m) (hd : Blk w1 hb 45 [.pointer (some ⟨m, 0, none⟩), .int .u64 (D.length : Nat)]) (hex : Blk w1 xm 69 xvs) (fr : Fr (fun z => z = hb ∨ z ∈ D0) w00 w1)
    (f1 : Fr (fun _ => False) w1 w) (ht : Own w 42 tp 0 tc []) (hv : Own w 42 vp 0 vcap []) (htn : ∀ b, bl tp b → w1.heap.size ≤ b) (hvn : ∀ b, bl vp b → w1.heap.size ≤ b) (htv : ∀ b, bl tp b → ¬ bl vp b) :
    Loop [.ptr, .ptr, .slice, .slice, .ptr] (F20_L2 k) (some ⟨hb, 0, none⟩) mp tp 0 tc vp 0 vcap (some ⟨m, 0, none⟩) w := by
  have hVD : ∀ z ∈ V, z ∈ D := fun z hz => ((F.Rm z).1 ((hRV z).2 hz)).1
  refine F20_L2_rule (fun hp' mp' tp' tl tc' vp' vl vc' cp w' => hp' = some ⟨hb, 0, none⟩ ∧ mp' = mp ∧ tp' = tp ∧ tl = 0 ∧ tc' = tc ∧ ∃ (i c : Nat), vl = i ∧ i ≤ V.length ∧ cp = some ⟨c, 0, none⟩ ∧ (V[i]? = some c ∨ (i = V.length ∧ V[0]? = some c)) ∧ Own w' 42 vp' i vc' ((V.take i).map pV) ∧ (∀ b, bl vp' b → w1.heap.size ≤ b) ∧ (∀ b, bl tp b → ¬ bl vp' b) ∧ Own w' 42 tp 0 tc [] ∧ Fr (fun _ => False) w1 w')
    (fun _ _ _ _ _ _ vl _ _ _ => 1000 - vl) ?_ ⟨rfl, rfl, rfl, rfl, rfl, 0, m, rfl, Nat.zero_le _, rfl, .inl hV, hv, hvn, htv, ht, f1⟩
  rintro hp' mp' tp' tl tc' vp' vl vc' cp w2 ⟨rfl, rfl, rfl, rfl, rfl, i, c, rfl, hi, rfl, hc, o2, hn2, hd2, t2, f2⟩
  have ms2 := hms.fr0 f2
  have hcV : c ∈ V := by
    rcases hc with h | ⟨_, h⟩
    · exact List.mem_of_getElem? h
    · exact List.mem_of_getElem? h
  obtain ⟨ii, g1, g2, g3, g4⟩ := inf42
  -- one more
  have J3 : V[vl]? = some c → F20_J3 k (fun hp' mp'' tp'' tl tc'' vp'' vl'' vc'' cp w' => (hp' = some ⟨hb, 0, none⟩ ∧ mp'' = mp' ∧ tp'' = tp' ∧ tl = 0 ∧ tc'' = tc' ∧ ∃ (i c : Nat), vl'' = i ∧ i ≤ V.length ∧ cp = some ⟨c, 0, none⟩ ∧ (V[i]? = some c ∨ (i = V.length ∧ V[0]? = some c)) ∧ Own w' 42 vp'' i vc'' ((V.take i).map pV) ∧ (∀ b, bl vp'' b → w1.heap.size ≤ b) ∧ (∀ b, bl tp' b → ¬ bl vp'' b) ∧ Own w' 42 tp' 0 tc' [] ∧ Fr (fun _ => False) w1 w') ∧ 1000 - vl'' < 1000 - vl) (some ⟨hb, 0, none⟩) mp' tp' 0 tc' vp' vl vc' (some ⟨c, 0, none⟩) w2 := by
    intro hcc
    have hil : vl < V.length := (List.getElem?_eq_some_iff.1 hcc).1
    unfold F20_J3
    refine append1 (P := Try.prog) und49 g1 g2 g3 rfl (by omega) o2 rfl rfl (by omega) fun p' c' w3 f3 o3 hp3 hs3 => ?_
    simp only [NN_mk]
    have f13 : Fr (fun _ => False) w1 w3 := f2.trans f3 fun b hb => .inr (hn2 b hb)
    refine ld_nx (hms.fr0 f13) (hVD c hcV) ?_
    have hsz := f2.size
    refine ⟨⟨(by trivial), (by trivial), (by trivial), (by trivial), (by trivial), vl + 1, s.nx c, rfl, by omega, rfl, ?_, ?_, fun b hb => (hp3 b hb).elim (hn2 b) fun h => by omega, fun b hb hb' => ?_, t2.fr f3 fun b hb hb' => hd2 b hb hb', f13⟩, by omega⟩
    · rcases ring_idx rV hcc with h | h
      · exact .inl h
      · exact .inr h
    · rw [take_snoc hcc, List.map_append]; exact o3
    · rcases hp3 b hb' with h | h
      · exact hd2 b hb h
      · have := t2.lt hb; omega
  unfold F20_L2
  by_cases h0 : vl = 0
  · subst h0
    rw [show ((((0 : Nat) : Int)) == 0) = true from rfl]
    simp only [BIf_true]
    refine J3 ?_
    rcases hc with h | ⟨h, _⟩
    · exact h
    · omega
  rw [show (((vl : Nat) : Int) == 0) = false by rw [beq_eq_false_iff_ne]; omega]
  simp only [BIf_false]
  obtain ⟨vq, vrest, rfl, hvB, _, _⟩ := o2.get (by omega)
  have hmD : m ∈ D := hVD m (List.mem_of_getElem? hV)
  have htk0 : (V.take vl)[0]? = some m := by rw [List.getElem?_take, if_pos (by omega)]; exact hV
  simp only [NN_mk]
  refine ⟨by omega, LoadT_ptr.2 ⟨some ⟨m, 0, none⟩, by show w2.cell? ⟨vq, 0, none⟩ = _; rw [o2.cell (by omega), List.getElem?_map, htk0]; rfl, ?_⟩⟩
  refine ptr_neq (ms2.known hmD) (ms2.known (hVD c hcV)) ?_
  rcases hc with h | ⟨h1, h2⟩
  · have hmc : m ≠ c := fun e => by
      subst e
      obtain ⟨a1, a2⟩ := List.getElem?_eq_some_iff.1 hV
      obtain ⟨b1, b2⟩ := List.getElem?_eq_some_iff.1 h
      exact absurd (a2.trans b2.symm) (List.pairwise_iff_getElem.1 hVn 0 vl a1 b1 (by omega))
    have hdec : decide ((some (⟨m, 0, none⟩ : Addr)) ≠ some ⟨c, 0, none⟩) = true := by simp [hmc]
    rw [hdec]
    simp only [BIf_true]
    exact J3 h
  · rw [hV] at h2; cases h2
    have hdec : decide ((some (⟨m, 0, none⟩ : Addr)) ≠ some ⟨m, 0, none⟩) = false := by simp
    rw [hdec]
    simp only [BIf_false]
    subst h1
    rw [List.take_length] at o2
    have hsz := fr.size
    refine F20_L3_spec (w00 := w00) (hb := hb) (q := vq) (vc := vc') (xm := xm) (xvs := xvs) (D0 := D0) (D := D) (pr := pr) (V := V) (mp := mp') hDD hxm ft hDl hVn hV0 hVl hk (s := s) (R := R) (C := C) (h := h) (m := m) ⟨ms2, F, hR, or, hpe, hd.fr f2 id, t2, fun b hb => ⟨?_, fun e => ?_⟩, o2, ?_, hex.fr f2 id, fun z => ?_, (fun d z hz => by cases hz), fun z hz => ⟨by simp, by simp⟩, (fun z hz => by cases hz), hmD, (fun z hz => by cases hz), (fun c hc => by cases hc), fun _ => .inr ⟨rfl, rfl, hV⟩, by omega, fr.trans f2 fun _ h => h.elim⟩
    · have := htn b hb; omega
    · exact hd2 b hb ⟨_, rfl, e.symm⟩
    · have := hn2 vq ⟨_, rfl, rfl⟩; omega
    · rw [hRV, List.drop_zero]; simp
end
end Go.Proofs.Ytlbeelgfpbkdbaa.E
