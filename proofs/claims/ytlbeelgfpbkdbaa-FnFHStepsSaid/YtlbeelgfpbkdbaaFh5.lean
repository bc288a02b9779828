/-
  The roots are brought together until no two have as many children.
-/
import Derived.Test.YtlbeelgfpbkdbaaFh4
namespace Go.Proofs.Ytlbeelgfpbkdbaa.E
open Go
set_option linter.unusedSimpArgs false
set_option linter.unusedVariables false
set_option maxRecDepth 100000
set_option maxHeartbeats 8000000

/-! ## Measures that only the invariant knows -/
theorem exists_min {P : Nat → Prop} (h : ∃ n, P n) : ∃ n, P n ∧ ∀ m, P m → n ≤ m := by
  obtain ⟨n, hn⟩ := h
  induction n using Nat.strongRecOn with
  | ind n ih =>
    by_cases hm : ∃ m, m < n ∧ P m
    · obtain ⟨m, h1, h2⟩ := hm; exact ih m h1 h2
    · exact ⟨n, hn, fun m h => by
        rcases Nat.lt_or_ge m n with h1 | h1
        · exact absurd ⟨m, h1, h⟩ hm
        · exact h1⟩
open Classical in
noncomputable def mn (P : Nat → Prop) : Nat := if h : ∃ n, P n then (exists_min h).choose else 0
theorem mn_spec {P : Nat → Prop} (h : ∃ n, P n) : P (mn P) := by unfold mn; rw [dif_pos h]; exact (exists_min h).choose_spec.1
theorem mn_lt {P : Nat → Prop} {m n : Nat} (h : P m) (hl : m < n) : mn P < n := by
  have h' : ∃ n, P n := ⟨m, h⟩
  unfold mn; rw [dif_pos h']
  exact Nat.lt_of_le_of_lt ((exists_min h').choose_spec.2 m h) hl

theorem in_set {ts : List (Option Nat)} {d z : Nat} {v : Option Nat} : some z ∈ ts.set d v ↔ (d < ts.length ∧ v = some z) ∨ ∃ i : Nat, i ≠ d ∧ ts[i]? = some (some z) := by
  rw [List.mem_iff_getElem?]
  constructor
  · rintro ⟨i, hi⟩
    by_cases e : i = d
    · subst e
      rcases Nat.lt_or_ge i ts.length with hl | hl
      · rw [List.getElem?_set_self hl] at hi
        exact .inl ⟨hl, by simpa using hi⟩
      · rw [List.getElem?_eq_none (by simpa using hl)] at hi; cases hi
    · rw [List.getElem?_set_ne (fun h => e h.symm)] at hi
      exact .inr ⟨i, e, hi⟩
  · rintro (⟨h1, h2⟩ | ⟨i, h1, h2⟩)
    · exact ⟨d, by rw [List.getElem?_set_self h1, h2]⟩
    · exact ⟨i, by rw [List.getElem?_set_ne (fun h => h1 h.symm)]; exact h2⟩
theorem in_get {ts : List (Option Nat)} {z : Nat} : some z ∈ ts ↔ ∃ i : Nat, ts[i]? = some (some z) := List.mem_iff_getElem?

def pV (z : Nat) : Value := .pointer (some ⟨z, 0, none⟩)
def pO (o : Option Nat) : Value := .pointer (oA o)
theorem und49 : Try.prog.underlying 49 = some (.slice 42) := by kernel_rfl
theorem inf42 : ∃ i, Try.prog.info? 42 = some i ∧ i.zero = some (.pointer none) ∧ i.size = 1 ∧ i.bytes ≤ 4096 := ⟨_, rfl, by kernel_rfl, by kernel_rfl, Nat.le_of_ble_eq_true (by kernel_rfl)⟩

/-- How far the bringing together has come: the table ts, the roots of V from j on, the one that is at hand. -/
structure Con (w00 w : World) (hb size q vc xm : Nat) (xvs : List Value) (D0 D : List Nat) (pr : Nat → Int) (V : List Nat) (j : Nat) (tp : Option Addr) (tl tc : Nat) (cur : Option Nat) (ts : List (Option Nat)) (s : St) (R : List Nat) (C : Nat → List Nat) (h : Nat → Nat) (m : Nat) : Prop where
  ms : MS w D s
  fo : For s D R C h
  rr : Ring s.nx s.pv R
  or : Ordd s D
  pe : s.pr = pr
  hd : Blk w hb 45 [.pointer (some ⟨m, 0, none⟩), .int .u64 (size : Nat)]
  tb : Own w 42 tp tl tc (ts.map pO)
  tn : ∀ b, bl tp b → w00.heap.size ≤ b ∧ b ≠ q
  vs : Own w 42 (some ⟨q, 0, none⟩) V.length vc (V.map pV)
  qn : w00.heap.size ≤ q
  ex : Blk w xm 69 xvs
  rm : ∀ z, z ∈ R ↔ z ∈ V.drop j ∨ some z ∈ ts ∨ cur = some z
  td : ∀ (d z : Nat), ts[d]? = some (some z) → s.dg z = d
  dj : ∀ z ∈ V.drop j, some z ∉ ts ∧ cur ≠ some z
  cj : ∀ z, cur = some z → some z ∉ ts
  mD : m ∈ D
  m2 : ∀ z, some z ∈ ts → pr m ≤ pr z
  m3 : ∀ c, cur = some c → pr c ≤ pr m ∨ some m ∈ ts
  m4 : cur = none → some m ∈ ts ∨ (j = 0 ∧ ts = [] ∧ V[0]? = some m)
  tlb : tl ≤ 1000
  fr : Fr (fun z => z = hb ∨ z ∈ D0) w00 w

section
variable {k : Value → W} {w00 : World} {hb size q vc xm : Nat} {xvs : List Value} {D0 D : List Nat} {pr : Nat → Int} {V : List Nat} {j : Nat} {mp : Option Addr} {sp : Option Addr} {sl sc : Nat} {x y : Int}
theorem F20_L4_spec {again70 : Option Addr → Option Addr → Option Addr → Nat → Nat → Option Addr → Nat → Nat → Int → Int → W} (hDD : ∀ z ∈ D, z ∈ D0) (hxm : xm ∉ D) (ft : ∀ z ∈ D, Fit (pr z)) (hDl : D.length < 1000)
    (hk : ∀ w' tp tl tc ts s R C h m, Con w00 w' hb size q vc xm xvs D0 D pr V j tp tl tc none ts s R C h m → some m ∈ ts → again70 (some ⟨hb, 0, none⟩) mp tp tl tc sp sl sc x (addI .i64 y 1) w') :
    ∀ {w : World} {tp : Option Addr} {tl tc : Nat} {c : Nat} {ts : List (Option Nat)} {s : St} {R : List Nat} {C : Nat → List Nat} {h : Nat → Nat} {m : Nat}, Con w00 w hb size q vc xm xvs D0 D pr V j tp tl tc (some c) ts s R C h m →
    Loop [.ptr, .ptr, .slice, .ptr, .slice, (.int .i64), (.int .i64)] (F20_L4 k again70) (some ⟨hb, 0, none⟩) mp tp tl tc (some ⟨c, 0, none⟩) sp sl sc x y w := by
  intro w tp tl tc c ts s R C h m H
  let J : Nat → Option Addr → Option Addr → Option Addr → Nat → Nat → Option Addr → Option Addr → Nat → Nat → Int → Int → World → Prop := fun n hp' mp' tp tl tc cp sp' sl' sc' x' y' w' =>
    hp' = some ⟨hb, 0, none⟩ ∧ mp' = mp ∧ sp' = sp ∧ sl' = sl ∧ sc' = sc ∧ x' = x ∧ y' = y ∧ ∃ c ts s R C h m, cp = some ⟨c, 0, none⟩ ∧ R.length = n ∧ Con w00 w' hb size q vc xm xvs D0 D pr V j tp tl tc (some c) ts s R C h m
  refine F20_L4_rule (fun hp' mp' tp tl tc cp sp' sl' sc' x' y' w' => ∃ n, J n hp' mp' tp tl tc cp sp' sl' sc' x' y' w')
    (fun hp' mp' tp tl tc cp sp' sl' sc' x' y' w' => mn fun n => J n hp' mp' tp tl tc cp sp' sl' sc' x' y' w') ?_ ⟨_, rfl, rfl, rfl, rfl, rfl, rfl, rfl, c, ts, s, R, C, h, m, rfl, rfl, H⟩
  intro hp' mp' tp1 tl1 tc1 cp sp' sl' sc' x' y' w1 hex
  have hJ := mn_spec hex
  generalize hn : (mn fun n => J n hp' mp' tp1 tl1 tc1 cp sp' sl' sc' x' y' w1) = n at hJ
  obtain ⟨rfl, rfl, rfl, rfl, rfl, rfl, rfl, c, ts, s, R, C, h, m, rfl, hRn, H⟩ := hJ
  unfold F20_L4
  refine F20_L5_rule (fun hp' mp'' tp tl tc cp sp'' sl'' sc'' x'' y'' w' => hp' = some ⟨hb, 0, none⟩ ∧ mp'' = mp' ∧ cp = some ⟨c, 0, none⟩ ∧ sp'' = sp' ∧ sl'' = sl' ∧ sc'' = sc' ∧ x'' = x' ∧ y'' = y' ∧ ∃ ts, Con w00 w' hb size q vc xm xvs D0 D pr V j tp tl tc (some c) ts s R C h m)
    (fun _ _ _ tl _ _ _ _ _ _ _ _ => 2000 - tl) ?_ ⟨rfl, rfl, rfl, rfl, rfl, rfl, rfl, rfl, ts, H⟩
  rintro hp'' mp'' tp tl tc cp sp'' sl'' sc'' x'' y'' w2 ⟨rfl, rfl, rfl, rfl, rfl, rfl, rfl, rfl, ts, H⟩
  have hcR : c ∈ R := (H.rm c).2 (.inr (.inr rfl))
  have hRD : ∀ z ∈ R, z ∈ D := fun z hz => ((H.fo.Rm z).1 hz).1
  have hcD := hRD c hcR
  have htl : ts.length = tl := by simpa using H.tb.1
  have hdl := H.fo.deg_le hcD
  obtain ⟨ii, g1, g2, g3, g4⟩ := inf42
  have hne : ∀ z ∈ D, z ≠ hb := fun z hz e => by have := H.ms z hz; rw [e] at this; exact absurd (this.unique H.hd).1 (by decide)
  have ty42 : ∀ b, bl tp b → ∃ us, Blk w2 b 42 us := fun b hb => H.tb.blk hb
  have tn0 : ∀ {b t us}, Blk w2 b t us → t ≠ 42 → ¬ bl tp b := fun hb ht h => by
    obtain ⟨us', hu⟩ := ty42 _ h
    exact ht (hb.unique hu).1
  have hpe : s.pr = pr := H.pe
  unfold F20_L5
  simp only [NN_mk]
  refine ld_dg H.ms hcD ?_
  by_cases hge : s.dg c ≥ tl
  · rw [decide_eq_true (show ((s.dg c : Nat) : Int) ≥ ((tl : Nat) : Int) by omega)]
    simp only [BIf_true]
    refine append1 (P := Try.prog) und49 g1 g2 g3 rfl (by omega) H.tb rfl rfl (by omega) fun p' c' w3 f3 o3 hp3 hs3 => ?_
    have hmem : ∀ z, some z ∈ ts ++ [none] ↔ some z ∈ ts := fun z => by simp
    refine ⟨⟨(by trivial), (by trivial), (by trivial), (by trivial), (by trivial), (by trivial), (by trivial), (by trivial), ts ++ [none], ⟨H.ms.fr f3 fun z hz => tn0 (H.ms z hz) (by decide), H.fo, H.rr, H.or, H.pe, H.hd.fr f3 (tn0 H.hd (by decide)), by rw [List.map_append]; exact o3, fun b hb => ?_, H.vs.fr f3 fun b hb hb' => ?_, H.qn, H.ex.fr f3 (tn0 H.ex (by decide)), fun z => by rw [hmem]; exact H.rm z, fun d z hz => ?_, fun z hz => by rw [hmem]; exact H.dj z hz, fun z hz => by rw [hmem]; exact H.cj z hz, H.mD, fun z hz => H.m2 z ((hmem z).1 hz), fun c hc => by rw [hmem]; exact H.m3 c hc, (fun e => by cases e), by omega, H.fr.trans f3 fun b hb => .inr (H.tn b hb).1⟩⟩, by omega⟩
    · rcases hp3 b hb with h | h
      · exact H.tn b h
      · have h1 := H.fr.size
        have h2 := H.vs.lt (b := q) ⟨_, rfl, rfl⟩
        exact ⟨by omega, by omega⟩
    · obtain ⟨a, ha, hb2⟩ := hb
      cases ha
      exact (H.tn b hb').2 hb2.symm
    · rcases Nat.lt_trichotomy d ts.length with hl | hl | hl
      · rw [List.getElem?_append_left hl] at hz; exact H.td d z hz
      · subst hl; simp at hz
      · rw [List.getElem?_eq_none (by simp; omega)] at hz; cases hz
  rw [decide_eq_false (show ¬ ((s.dg c : Nat) : Int) ≥ ((tl : Nat) : Int) by omega)]
  simp only [BIf_false]
  have hlt : s.dg c < tl := by omega
  obtain ⟨tq, trest, rfl, hTB, _, _⟩ := H.tb.get (by omega)
  obtain ⟨o, ho⟩ : ∃ o, ts[s.dg c]? = some o := ⟨ts[s.dg c]'(by omega), List.getElem?_eq_getElem _⟩
  have htcell : ∀ {w'}, Own w' 42 (some ⟨tq, 0, none⟩) tl tc (ts.map pO) → w'.cell? ((⟨tq, 0, none⟩ : Addr).add (s.dg c)) = some (.pointer (oA o)) := fun hO => by
    rw [add_mk, Nat.zero_add, hO.cell hlt, List.getElem?_map, ho]; rfl
  have htset : ∀ {w' : World} {v : Option Nat} {K : W}, Own w' 42 (some ⟨tq, 0, none⟩) tl tc (ts.map pO) → (∀ w'', Own w'' 42 (some ⟨tq, 0, none⟩) tl tc ((ts.set (s.dg c) v).map pO) → Fr (fun b => b = tq) w' w'' → K w'') → Store1 ((⟨tq, 0, none⟩ : Addr).add (s.dg c)) (.pointer (oA v)) K w' := fun {w' v K} hO hK => by
    have h1 := htcell hO
    rw [add_mk, Nat.zero_add] at h1 ⊢
    refine Store1_iff.2 ⟨rfl, ⟨_, h1⟩, hO.frozen _, hK _ ?_ (Fr.setCell _ _ _ rfl)⟩
    have := hO.set hlt (pO v)
    rw [List.map_set]; exact this
  have tqn := H.tn tq ⟨_, rfl, rfl⟩
  have htn : ∀ {w' b t us}, Own w' 42 (some ⟨tq, 0, none⟩) tl tc (ts.map pO) → Blk w' b t us → t ≠ 42 → ¬ b = tq := fun hO hb ht h => by
    obtain ⟨us', hu⟩ := hO.blk (b := tq) ⟨_, rfl, rfl⟩
    rw [h] at hb; exact ht (hb.unique hu).1
  refine ld_dg H.ms hcD ?_
  simp only [Int.toNat_natCast]
  refine ⟨by omega, LoadT_ptr.2 ⟨_, htcell H.tb, ?_⟩⟩
  rw [oA_isNone]
  cases o with
  | none =>
    simp only [Option.isNone_none, BIf_true]
    refine ld_dg H.ms hcD ?_
    simp only [Int.toNat_natCast]
    refine ⟨by omega, htset (v := some c) H.tb fun w3 o3 f3 => ?_⟩
    refine drw_intro fun w4 f4 z4 => ?_
    have n3 := fun {b t us} (hb : Blk w2 b t us) ht => htn H.tb hb ht
    have ms4 : MS w4 D s := (H.ms.fr f3 fun z hz => n3 (H.ms z hz) (by decide)).fr0 f4
    have hd4 := (H.hd.fr f3 (n3 H.hd (by decide))).fr f4 id
    have o4 := o3.fr f4 fun _ _ h => h
    have vs4 := (H.vs.fr f3 fun b ⟨a, ha, hb⟩ e => by cases ha; have e : b = tq := e; have hb : q = b := hb; omega).fr f4 fun _ _ h => h
    have ex4 := (H.ex.fr f3 (n3 H.ex (by decide))).fr f4 id
    have fr4 : Fr (fun z => z = hb ∨ z ∈ D0) w00 w4 := (H.fr.trans f3 fun b e => .inr (by have e : b = tq := e; omega)).trans f4 fun _ h => h.elim
    have hin : ∀ z, some z ∈ ts.set (s.dg c) (some c) ↔ z = c ∨ some z ∈ ts := fun z => by
      rw [in_set, in_get]
      constructor
      · rintro (⟨_, h⟩ | ⟨i, _, h⟩)
        · cases h; exact .inl rfl
        · exact .inr ⟨i, h⟩
      · rintro (h | ⟨i, h⟩)
        · exact .inl ⟨by omega, by rw [h]⟩
        · exact .inr ⟨i, (fun e => by rw [e, ho] at h; cases h), h⟩
    have base : ∀ (m' : Nat) (w5 : World), Fr (fun b => b = hb) w4 w5 → Blk w5 hb 45 [.pointer (some ⟨m', 0, none⟩), .int .u64 (size : Nat)] → m' ∈ D → (∀ z, some z ∈ ts.set (s.dg c) (some c) → pr m' ≤ pr z) → some m' ∈ ts.set (s.dg c) (some c) → again70 (some ⟨hb, 0, none⟩) mp'' (some ⟨tq, 0, none⟩) tl tc sp'' sl'' sc'' x'' (addI .i64 y'' 1) w5 := by
      intro m' w5 f5 hd5 hm' hm2 hm3
      have h45 : ∀ {b t us}, Blk w4 b t us → t ≠ 45 → ¬ b = hb := fun hb' ht e => by rw [e] at hb'; exact ht (hb'.unique hd4).1
      refine hk w5 (some ⟨tq, 0, none⟩) tl tc (ts.set (s.dg c) (some c)) s R C h m' ⟨ms4.fr f5 fun z hz => h45 (ms4 z hz) (by decide), H.fo, H.rr, H.or, H.pe, hd5, o4.fr f5 fun b hb' e => ?_, H.tn, vs4.fr f5 fun b hb' e => ?_, H.qn, ex4.fr f5 (h45 ex4 (by decide)), fun z => ?_, fun d z hz => ?_, fun z hz => ⟨?_, by simp⟩, (fun z hz => by cases hz), hm', hm2, (fun c hc => by cases hc), fun _ => .inl hm3, H.tlb, fr4.trans f5 fun b e => .inl (.inl e)⟩ hm3
      · obtain ⟨us, hu⟩ := o4.blk hb'
        exact h45 hu (by decide) e
      · obtain ⟨us, hu⟩ := vs4.blk hb'
        exact h45 hu (by decide) e
      · rw [hin, H.rm z]
        constructor
        · rintro (h | h | h)
          · exact .inl h
          · exact .inr (.inl (.inr h))
          · cases h; exact .inr (.inl (.inl rfl))
        · rintro (h | (h | h) | h)
          · exact .inl h
          · exact .inr (.inr (by rw [h]))
          · exact .inr (.inl h)
          · cases h
      · by_cases e : d = s.dg c
        · subst e
          rw [List.getElem?_set_self (by omega)] at hz
          cases hz; rfl
        · rw [List.getElem?_set_ne (fun h => e h.symm)] at hz
          exact H.td d z hz
      · rw [hin]
        rintro (h | h)
        · exact (H.dj z hz).2 (by rw [h])
        · exact (H.dj z hz).1 h
    refine ld_pr ms4 hcD ?_
    refine load_ptr (i := 0) hd4 rfl ?_
    simp only [NN_mk]
    refine ld_pr ms4 H.mD (fl_leq (by rw [hpe]; exact ft c hcD) (by rw [hpe]; exact ft m H.mD) ?_)
    refine ⟨by rw [hd4.cell]; rfl, ?_⟩
    rw [hpe]
    by_cases hle : pr c ≤ pr m
    · rw [decide_eq_true hle]
      simp only [BIf_true]
      refine store_intro (i := 0) hd4 (by simp) rfl fun w5 b5 f5 z5 => ?_
      refine base c w5 f5 b5 hcD (fun z hz => ?_) ((hin c).2 (.inl rfl))
      rcases (hin z).1 hz with h | h
      · rw [h]; exact Int.le_refl _
      · have := H.m2 z h; omega
    · rw [decide_eq_false hle]
      simp only [BIf_false]
      refine base m w4 (Fr.refl _ _) hd4 H.mD (fun z hz => ?_) ((hin m).2 (.inr ?_))
      · rcases (hin z).1 hz with h | h
        · rw [h]; omega
        · exact H.m2 z h
      · rcases H.m3 c rfl with h | h
        · exact absurd h hle
        · exact h
  | some o =>
    simp only [Option.isNone_some, BIf_false]
    have hoin : some o ∈ ts := in_get.2 ⟨_, ho⟩
    have hoR : o ∈ R := (H.rm o).2 (.inr (.inl hoin))
    have hoD := hRD o hoR
    have hoc : o ≠ c := fun e => H.cj c rfl (e ▸ hoin)
    refine ld_dg H.ms hcD ?_
    simp only [Int.toNat_natCast]
    refine ⟨by omega, LoadT_ptr.2 ⟨_, htcell H.tb, ?_⟩⟩
    refine ld_dg H.ms hcD ?_
    simp only [Int.toNat_natCast]
    refine ⟨by omega, htset (v := none) H.tb fun w3 o3 f3 => ?_⟩
    refine drw_intro fun w4 f4 z4 => ?_
    have n3 := fun {b t us} (hb : Blk w2 b t us) ht => htn H.tb hb ht
    have ms4 : MS w4 D s := (H.ms.fr f3 fun z hz => n3 (H.ms z hz) (by decide)).fr0 f4
    have hd4 := (H.hd.fr f3 (n3 H.hd (by decide))).fr f4 id
    have o4 := o3.fr f4 fun _ _ h => h
    have vs4 := (H.vs.fr f3 fun b ⟨a, ha, hb⟩ e => by cases ha; have e : b = tq := e; have hb : q = b := hb; omega).fr f4 fun _ _ h => h
    have ex4 := (H.ex.fr f3 (n3 H.ex (by decide))).fr f4 id
    have fr4 : Fr (fun z => z = hb ∨ z ∈ D0) w00 w4 := (H.fr.trans f3 fun b e => .inr (by have e : b = tq := e; omega)).trans f4 fun _ h => h.elim
    have hin : ∀ z, some z ∈ ts.set (s.dg c) none ↔ some z ∈ ts ∧ z ≠ o := fun z => by
      rw [in_set, in_get]
      constructor
      · rintro (⟨_, h⟩ | ⟨i, hi, h⟩)
        · cases h
        · exact ⟨⟨i, h⟩, fun e => by
            subst e
            have h1 := H.td i z h
            have h2 := H.td _ z ho
            omega⟩
      · rintro ⟨⟨i, h⟩, hz⟩
        exact .inr ⟨i, (fun e => by rw [e, ho] at h; cases h; exact hz rfl), h⟩
    rw [oA_some]
    simp only [NN_mk]
    refine ld_pr ms4 hoD (ld_pr ms4 hcD (fl_lss (by rw [hpe]; exact ft o hoD) (by rw [hpe]; exact ft c hcD) ?_))
    have link : ∀ a b : Nat, (a = o ∧ b = c ∨ a = c ∧ b = o) → s.pr a ≤ s.pr b → F20_J4 k again70 (fun hp' mp' tp tl tc cp sp' sl' sc' x' y' w' => (∃ n, J n hp' mp' tp tl tc cp sp' sl' sc' x' y' w') ∧ (mn fun n => J n hp' mp' tp tl tc cp sp' sl' sc' x' y' w') < n) (some ⟨hb, 0, none⟩) mp'' (some ⟨tq, 0, none⟩) tl tc (some ⟨a, 0, none⟩) (some ⟨b, 0, none⟩) sp'' sl'' sc'' x'' y'' w4 := by
      intro a b hab hle
      have haR : a ∈ R := by rcases hab with ⟨e, _⟩ | ⟨e, _⟩ <;> rw [e] <;> assumption
      have hbR : b ∈ R := by rcases hab with ⟨_, e⟩ | ⟨_, e⟩ <;> rw [e] <;> assumption
      have hne2 : a ≠ b := by rcases hab with ⟨e, e'⟩ | ⟨e, e'⟩ <;> rw [e, e']; exact hoc; exact hoc.symm
      have hac : pr a ≤ pr c ∧ pr a ≤ pr o := by
        rw [hpe] at hle
        rcases hab with ⟨e, e'⟩ | ⟨e, e'⟩ <;> subst e <;> subst e'
        · exact ⟨hle, Int.le_refl _⟩
        · exact ⟨Int.le_refl _, hle⟩
      refine F20_J4_spec ms4 H.fo H.rr H.or haR hbR hne2 hle (by rw [hpe]; exact ft) (by omega) fun s' R' C' h' w5 k1 k2 k3 k4 k5 k6 k7 k8 k9 => ?_
      have nD : ∀ {b t us}, Blk w4 b t us → t ≠ 69 → b ∉ D := fun hb' ht hm => ht (hb'.unique (ms4 _ hm)).1
      have hJ : J R'.length (some ⟨hb, 0, none⟩) mp'' (some ⟨tq, 0, none⟩) tl tc (some ⟨a, 0, none⟩) sp'' sl'' sc'' x'' y'' w5 := by
        refine ⟨rfl, rfl, rfl, rfl, rfl, rfl, rfl, a, ts.set (s.dg c) none, s', R', C', h', m, rfl, rfl, ⟨k1, k2, k3, k4, by rw [k5]; exact hpe, hd4.fr k9 (nD hd4 (by decide)), o4.fr k9 fun b hb' => ?_, H.tn, vs4.fr k9 fun b hb' => ?_, H.qn, ex4.fr k9 (by assumption), fun z => ?_, fun d z hz => ?_, fun z hz => ⟨?_, ?_⟩, fun z hz => ?_, H.mD, fun z hz => H.m2 z ((hin z).1 hz).1, fun c' hc' => ?_, (fun e => by cases e), H.tlb, fr4.trans k9 fun b hb' => .inl (.inr (hDD b hb'))⟩⟩
        · obtain ⟨us, hu⟩ := o4.blk hb'
          exact nD hu (by decide)
        · obtain ⟨us, hu⟩ := vs4.blk hb'
          exact nD hu (by decide)
        · rw [k6, H.rm z, hin]
          constructor
          · rintro ⟨h1 | h1 | h1, h2⟩
            · exact .inl h1
            · by_cases e : z = o
              · rcases hab with ⟨e1, e2⟩ | ⟨e1, e2⟩
                · exact .inr (.inr (by rw [e, e1]))
                · exact absurd (e.trans e2.symm) h2
              · exact .inr (.inl ⟨h1, e⟩)
            · cases h1
              rcases hab with ⟨e1, e2⟩ | ⟨e1, e2⟩
              · exact absurd e2.symm h2
              · exact .inr (.inr (by rw [e1]))
          · rintro (h1 | ⟨h1, h2⟩ | h1)
            · refine ⟨.inl h1, fun e => ?_⟩
              rcases hab with ⟨e1, e2⟩ | ⟨e1, e2⟩
              · exact (H.dj z h1).2 (by rw [e, e2])
              · exact (H.dj z h1).1 (by rw [e, e2]; exact hoin)
            · refine ⟨.inr (.inl h1), fun e => ?_⟩
              rcases hab with ⟨e1, e2⟩ | ⟨e1, e2⟩
              · exact H.cj z (by rw [e, e2]) h1
              · exact h2 (e.trans e2)
            · cases h1
              rcases hab with ⟨e1, e2⟩ | ⟨e1, e2⟩
              · exact ⟨.inr (.inl (by rw [e1]; exact hoin)), hne2⟩
              · exact ⟨.inr (.inr (by rw [e1])), hne2⟩
        · have hz' := (hin z).1 (in_get.2 ⟨d, hz⟩)
          have hza : z ≠ a := fun e => by
            rcases hab with ⟨e1, _⟩ | ⟨e1, _⟩
            · exact hz'.2 (e.trans e1)
            · exact H.cj z (by rw [e, e1]) hz'.1
          rw [k8 z hza]
          by_cases e : d = s.dg c
          · subst e; rw [List.getElem?_set_self (by omega)] at hz; cases hz
          · rw [List.getElem?_set_ne (fun h => e h.symm)] at hz; exact H.td d z hz
        · rw [hin]; exact fun h1 => (H.dj z hz).1 h1.1
        · intro e
          cases e
          rcases hab with ⟨e1, _⟩ | ⟨e1, _⟩
          · exact (H.dj _ hz).1 (by rw [e1]; exact hoin)
          · exact (H.dj _ hz).2 (by rw [e1])
        · cases hz
          rw [hin]
          rintro ⟨h1, h2⟩
          rcases hab with ⟨e1, _⟩ | ⟨e1, _⟩
          · exact h2 e1
          · exact H.cj _ (by rw [e1]) h1
        · cases hc'
          rcases H.m3 c rfl with h1 | h1
          · exact .inl (Int.le_trans hac.1 h1)
          · by_cases e : m = o
            · exact .inl (by rw [e]; exact hac.2)
            · exact .inr ((hin m).2 ⟨h1, e⟩)
      exact ⟨⟨_, hJ⟩, mn_lt hJ (by omega)⟩
    rw [hpe]
    by_cases hlt' : pr o < pr c
    · rw [decide_eq_true hlt']
      simp only [BIf_true]
      exact link o c (.inl ⟨rfl, rfl⟩) (by rw [hpe]; omega)
    · rw [decide_eq_false hlt']
      simp only [BIf_false]
      exact link c o (.inr ⟨rfl, rfl⟩) (by rw [hpe]; omega)
end
end Go.Proofs.Ytlbeelgfpbkdbaa.E
