/-
  An insertion, walked: the balances, the way down, the whole.
-/
import Derived.Test.YtokejbejoegnnaaAvJ
namespace Go.Proofs.Ytokejbejoegnnaa.E
open Go Tr
set_option linter.unusedSimpArgs false
set_option linter.unusedVariables false
set_option maxRecDepth 100000
set_option maxHeartbeats 4000000

/-! ## Measures that only the invariant knows -/
theorem exists_min {P : Nat → Prop} (h : ∃ n, P n) : ∃ n, P n ∧ ∀ m, P m → n ≤ m := by
  obtain ⟨n, hn⟩ := h
  induction n using Nat.strongRecOn with
  | ind n ih =>
    by_cases hm : ∃ m, m < n ∧ P m
    · obtain ⟨m, h1, h2⟩ := hm; exact ih m h1 h2
    · exact ⟨n, hn, fun m h => by
        rcases Nat.lt_or_ge m n with h1 | h1
        · exact absurd ⟨m, h1, h⟩ hm
        · exact h1⟩
open Classical in
noncomputable def mn (P : Nat → Prop) : Nat := if h : ∃ n, P n then (exists_min h).choose else 0
theorem mn_spec {P : Nat → Prop} (h : ∃ n, P n) : P (mn P) := by unfold mn; rw [dif_pos h]; exact (exists_min h).choose_spec.1
theorem mn_lt {P : Nat → Prop} {m n : Nat} (h : P m) (hl : m < n) : mn P < n := by
  have h' : ∃ n, P n := ⟨m, h⟩
  unfold mn; rw [dif_pos h']
  exact Nat.lt_of_le_of_lt ((exists_min h').choose_spec.2 m h) hl

theorem nodup_idx {l : List Nat} (h : l.Nodup) {i j x : Nat} (h1 : l[i]? = some x) (h2 : l[j]? = some x) : i = j := by
  obtain ⟨a1, a2⟩ := List.getElem?_eq_some_iff.1 h1
  obtain ⟨b1, b2⟩ := List.getElem?_eq_some_iff.1 h2
  rcases Nat.lt_trichotomy i j with hl | hl | hl
  · exact absurd (a2.trans b2.symm) (List.pairwise_iff_getElem.1 h i j a1 b1 hl)
  · exact hl
  · exact absurd (b2.trans a2.symm) (List.pairwise_iff_getElem.1 h j i b1 a1 hl)
theorem nd'_inj {d d2 : Bool} {b b2 : Nat} {bal bal2 : Int} {e e2 : It2} {c o c2 o2 : Tr} (h : nd' d b bal e c o = nd' d2 b2 bal2 e2 c2 o2) : b = b2 ∧ bal = bal2 ∧ e = e2 ∧ (d = d2 → c = c2 ∧ o = o2) := by
  cases d <;> cases d2 <;> simp only [nd', cond_true, cond_false, Tr.nd.injEq] at h <;> obtain ⟨rfl, rfl, rfl, rfl, rfl⟩ := h <;> simp

theorem blk_of {w : World} : ∀ {t : Tr} {b : Nat}, TrM w t → b ∈ t.bs → ∃ us, Blk w b 119 us
  | .nil, b, _, h => by cases h
  | .nd b' bal l e r, b, ⟨h1, h2, h3⟩, hb => by
    simp only [Tr.bs, List.mem_cons, List.mem_append] at hb
    rcases hb with rfl | hb | hb
    · exact ⟨_, h1⟩
    · exact blk_of h2 hb
    · exact blk_of h3 hb
section
variable {k : Value → W} {w0 : World} {base ib db num : Nat} {t : Tr} {e : It2}
/-- What the balances become, and what of it is set right. -/
theorem grown {U Z : List Fm} {s0 : Fm} {n : Nat} (hav : (plug (U ++ s0 :: Z) nil).AVL) (hlev : ∀ f ∈ Z, f.bal = 0) (hs : U = [] ∨ s0.bal ≠ 0) :
    (-2 ≤ s0.bal + sg s0.d ∧ s0.bal + sg s0.d ≤ 2) ∧ (plug (Z.map updF) (leaf n e)).AVL ∧ s0.o.AVL ∧
    ((s0.bal + sg s0.d ≠ 2 ∧ s0.bal + sg s0.d ≠ -2 → (plug U (plug ((s0 :: Z).map updF) (leaf n e))).AVL) ∧
     (s0.bal + sg s0.d = 2 ∨ s0.bal + sg s0.d = -2 → s0.bal = sg s0.d ∧ Z ≠ [] ∧ (plug (Z.map updF) (leaf n e)).h = s0.o.h + 2 ∧ ∀ R, R.AVL → R.h = (plug (Z.map updF) (leaf n e)).h → (plug U R).AVL)) := by
  rw [plug_append] at hav
  have hsub := plug_sub U hav
  have hsub' := hsub
  simp only [plug, avl_nd'] at hsub'
  obtain ⟨a1, a2, a3, a4, a5⟩ := hsub'
  obtain ⟨l1, l2⟩ := leaf_avl n e
  obtain ⟨g1, g2⟩ := grow_avl Z (t := nil) (t' := leaf n e) a1 hlev l1 (by rw [l2]; rfl)
  have hho := h_pos s0.o
  refine ⟨by rcases sg_cases s0.d with g | g <;> omega, g1, a2, fun hne => ?_, fun h2 => ?_⟩
  · have hn : (plug ((s0 :: Z).map updF) (leaf n e)).AVL := by
      simp only [List.map_cons, plug, avl_nd', updF]
      refine ⟨g1, a2, ?_, by rcases sg_cases s0.d with g | g <;> omega, by rcases sg_cases s0.d with g | g <;> omega⟩
      rw [g2, a3]; rcases sg_cases s0.d with g | g <;> rw [g] <;> omega
    rcases hs with rfl | hs
    · exact hn
    · refine (plug_avl U hav hn ?_).1
      simp only [List.map_cons, plug, h_nd', updF, g2]
      rcases sg_cases s0.d with g | g <;> rw [g] at a3 hne <;> omega
  · have hb : s0.bal = sg s0.d := by rcases sg_cases s0.d with g | g <;> omega
    have hh : (plug Z nil).h = s0.o.h + 1 := by
      rw [hb] at a3
      rcases sg_cases s0.d with g | g <;> rw [g] at a3 <;> simp only [Int.one_mul, Int.neg_mul] at a3 <;> omega
    refine ⟨hb, ?_, by omega, fun R hR hRh => ?_⟩
    · rintro rfl
      simp only [plug, Tr.h] at hh; omega
    · refine (plug_avl U hav hR ?_).1
      simp only [plug, h_nd']; omega
theorem ins_J2 {w : World} {U D0 : List Fm} {f : Fm} (h : Way w0 base ib db num t e U (D0 ++ [f]) nil w) (hnum : num < 4294967296) (hN : num = t.list.length) (hsrt : Srt t.list)
    (hk : ∀ t' w', TM w' base ib t' (num + 1) → InsL t.list e t'.list none → (∀ b ∈ t'.bs, b ∈ t.bs ∨ w0.heap.size ≤ b) → Fr (fun b => base ≤ b) w0 w' → k .nilIface w') :
    F60_J2 k (some ⟨ib, 0, none⟩) (encE e) ⟨db, 0, none⟩ (some ⟨f.b, 0, none⟩) (hd (D0 ++ [f]) none) (dI f.d) (some ⟨hlp U db, 0, none⟩) w := by
  obtain ⟨hib1, hib2⟩ := h.ibn
  have hsz := h.sz
  have hibb := h.ibb
  have hdbb := h.dbb
  unfold F60_J2
  try simp only [NN_mk]
  refine load_int (i := 1) h.im rfl ?_
  refine store_intro (i := 1) h.im (by simp) rfl fun w1 i1 f1 z1 => ?_
  have ea : addI .u64 (num : Nat) 1 = ((num + 1 : Nat) : Int) := by rw [addI_u64 (by omega) (by omega)]; omega
  rw [ea] at i1
  have ib1 : ∀ b ∈ pbs (U ++ (D0 ++ [f])), ¬ b = ib := fun b hb e => hib2 (List.mem_append_left _ (e ▸ hb))
  have P0 := ((trm_plug ..).1 h.tr).1
  have P1 : PM w1 (U ++ (D0 ++ [f])) none := PM.fr f1 P0 fun b hb e => ib1 b hb e
  have D1 := h.dm.fr f1 fun e => hib1 (by have : db = ib := e; exact this.symm)
  refine F69_call (F69_spec rfl fun n w2 e2 b2 f2 z2 => back_ptr ?_)
  have P2 := PM.fr f2 P1 fun _ _ h => h
  have D2 := D1.fr f2 id
  have i2 := i1.fr f2 id
  have hnlt : ∀ b ∈ pbs (U ++ (D0 ++ [f])), b < n := fun b hb => by have := PM.lt P1 b hb; omega
  -- the leaf is hung up
  rw [← List.append_assoc, pm_append] at P2
  obtain ⟨PA, hfb, hfo, _⟩ := P2
  simp only [hd] at hfb
  try simp only [NN_mk]
  rw [adr]
  refine ⟨dI_ok f.d, store_intro hfb (by rw [ncl_len]; exact sd_lt f.d) rfl fun w3 b3 f3 z3 => ?_⟩
  rw [ncl_set_c] at b3
  have hfm : f.b ∈ pbs (U ++ (D0 ++ [f])) := mem_b (by simp)
  have hnd := h.nd
  simp only [Tr.bs, List.append_nil] at hnd
  have hnd' := hnd
  rw [← List.append_assoc, pbs_append] at hnd'
  have hfA : ∀ b ∈ pbs (U ++ D0), ¬ b = f.b := fun b hb e => (List.nodup_append.1 hnd').2.2 b hb f.b (by simp [pbs]) e
  have hfo' : ∀ b ∈ f.o.bs, ¬ b = f.b := fun b hb e => by
    have := (List.nodup_append.1 hnd').2.1
    simp only [pbs, List.append_nil, List.nodup_cons] at this
    exact this.1 (e ▸ hb)
  have P3 : PM w3 (U ++ (D0 ++ [f])) (some ⟨n, 0, none⟩) := by
    rw [← List.append_assoc, pm_append]
    exact ⟨PM.fr f3 PA hfA, b3, hfo.fr f3 hfo', trivial⟩
  have hnf : ¬ n = f.b := fun e => by have := hnlt f.b hfm; omega
  have L3 : TrM w3 (leaf n e) := ⟨b2.fr f3 hnf, trivial, trivial⟩
  have hdbf : ¬ db = f.b := fun e => h.dbn (List.mem_append_left _ (e ▸ hfm))
  have D3 := D2.fr f3 hdbf
  have i3 := i2.fr f3 (fun e => ib1 f.b hfm (by have : ib = f.b := e; exact this.symm))
  have hfr3 : Fr (fun b => base ≤ b) w0 w3 := ((h.fr.trans f1 fun b e => .inl (by have : b = ib := e; omega)).trans f2 fun _ e => e.elim).trans f3 fun b e => .inl (by have : b = f.b := e; have := h.hi f (by simp); omega)
  have ed : hd (U ++ (D0 ++ [f])) Tr.nil.ptr = hd (U ++ (D0 ++ [f])) (some ⟨n, 0, none⟩) := by
    cases U with
    | nil => cases D0 <;> rfl
    | cons a U => rfl
  rw [ed] at D3
  refine ⟨by decide, load_ptr (i := 2) D3 rfl ?_⟩
  try simp only [NN_mk]
  refine store_intro (i := 0) i3 (by simp) rfl fun w4 i4 f4 z4 => ?_
  try simp only [List.set_cons_zero] at i4
  have P4 : PM w4 (U ++ (D0 ++ [f])) (some ⟨n, 0, none⟩) := PM.fr f4 P3 fun b hb e => ib1 b hb e
  have hin : ib < w1.heap.size := i1.lt
  have hdbl : db < n := by have := D1.lt; omega
  have hdbn := h.dbn
  have L4 : TrM w4 (leaf n e) := L3.fr f4 fun b hb e' => by simp [leaf, Tr.bs] at hb; have : b = ib := e'; omega
  have D4 := D3.fr f4 fun e => hib1 (by have : db = ib := e; exact this.symm)
  have hfr4 : Fr (fun b => base ≤ b) w0 w4 := hfr3.trans f4 fun b e => .inl (by have : b = ib := e; omega)
  clear i1 P1 D1 i2 D2 PA hfb hfo b3 P3 L3 D3 i3 P0
  have hns : base ≤ n := by have := f1.size; omega
  generalize hD : D0 ++ [f] = D at *
  have hDne : D ≠ [] := by rw [← hD]; simp
  obtain ⟨s0, Z, rfl⟩ : ∃ s0 Z, D = s0 :: Z := by cases D with | nil => exact absurd rfl hDne | cons a b => exact ⟨a, b, rfl⟩
  have hlev := h.lev
  simp only [List.tail_cons] at hlev
  have hss : U = [] ∨ s0.bal ≠ 0 := h.s.imp id fun h => h.1 s0 rfl
  obtain ⟨hrange, gN, gO, gOk, gBad⟩ := grown (e := e) (n := n) h.avl hlev hss
  have hdir : ∀ g ∈ s0 :: Z, (g.d = true → kx g.e < kx e) ∧ (g.d = false → kx e < kx g.e) := fun g hg => by
    have hm : g ∈ U ++ s0 :: Z := List.mem_append_right _ hg
    obtain ⟨a, b⟩ := in_dir hm
    exact ⟨fun hd => h.lo _ (a hd), fun hd => h.up _ (b hd)⟩
  have hndn : (pbs (U ++ s0 :: Z) ++ [n]).Nodup := List.nodup_append.2 ⟨hnd, by simp, fun a ha b hb e => by simp at hb; subst hb; have := hnlt a ha; omega⟩
  have hlist : t.list = inL (U ++ s0 :: Z) ++ inR (U ++ s0 :: Z) := by rw [← h.list, plug_list]; simp [Tr.list]
  have hInsL : InsL t.list e (inL (U ++ s0 :: Z) ++ e :: inR (U ++ s0 :: Z)) none := .new hlist h.lo h.up
  -- the balances
  refine F60_L2_rule (fun im en dm p sp q hp w' => im = some ⟨ib, 0, none⟩ ∧ en = encE e ∧ dm = ⟨db, 0, none⟩ ∧ sp = some ⟨s0.b, 0, none⟩ ∧ q = some ⟨n, 0, none⟩ ∧ hp = some ⟨hlp U db, 0, none⟩ ∧ ∃ P R, s0 :: Z = P ++ R ∧ p = hd R (some ⟨n, 0, none⟩) ∧ PM w' (U ++ (P.map updF ++ R)) (some ⟨n, 0, none⟩) ∧ TrM w' (leaf n e) ∧ ImM w' ib (hd (U ++ s0 :: Z) (some ⟨n, 0, none⟩)) (num + 1) ∧ Blk w' db 119 [.int .i8 0, .pointer none, .pointer (hd (U ++ s0 :: Z) (some ⟨n, 0, none⟩)), .nilIface] ∧ Fr (fun b => base ≤ b) w0 w')
    (fun _ _ _ p _ _ _ _ => mn fun m => ∃ P R, s0 :: Z = P ++ R ∧ p = hd R (some ⟨n, 0, none⟩) ∧ R.length = m) ?_ ⟨rfl, rfl, rfl, rfl, rfl, rfl, [], s0 :: Z, rfl, rfl, P4, L4, i4, D4, hfr4⟩
  rintro im en dm p sp q hp w5 ⟨rfl, rfl, rfl, rfl, rfl, rfl, P, R, hPR, rfl, P5, L5, i5, D5, fr5⟩
  have hpu : pbs (U ++ (P.map updF ++ R)) = pbs (U ++ s0 :: Z) := by rw [pbs_append, pbs_append, updF_pbs, ← pbs_append P R, ← hPR, ← pbs_append]
  have hkn : ∀ {w'}, TrM w' (leaf n e) → Known w' (some ⟨n, 0, none⟩) := fun h => .inr ⟨n, _, _, rfl, h.1⟩
  unfold F60_L2
  have hkp : Known w5 (hd R (some ⟨n, 0, none⟩)) := by
    rw [pm_append, pm_append] at P5
    cases R with
    | nil => exact hkn L5
    | cons g R => exact .inr ⟨_, _, _, rfl, P5.2.2.1⟩
  refine ptr_neq hkp (hkn L5) ?_
  cases R with
  | cons g R =>
    have hgm : g ∈ s0 :: Z := by rw [hPR]; simp
    have hgn : g.b ≠ n := fun e => by have := hnlt g.b (mem_b (List.mem_append_right U hgm)); omega
    rw [decide_eq_true (by simp only [hd]; intro h; cases h; exact hgn rfl)]
    simp only [BIf_true, hd, NN_mk]
    rw [pm_append, pm_append] at P5
    obtain ⟨PU, PP, hg, hgo, PR⟩ := P5
    refine load_any (i := 3) hg (ncl_e ..) ?_
    refine cmpE fun w6 f6 => ?_
    obtain ⟨hd1, hd2⟩ := hdir g hgm
    refine F71_call (F71_spec (back_int ?_))
    rw [dir_val hd1 hd2]
    have g6 := hg.fr f6 id
    -- one balance more
    have step : ∀ (K : W), (∀ w8, PM w8 (U ++ ((P ++ [g]).map updF ++ R)) (some ⟨n, 0, none⟩) → Blk w8 g.b 119 (ncl g.d (g.bal + sg g.d) g.e (hd R (some ⟨n, 0, none⟩)) g.o.ptr) → TrM w8 (leaf n e) → ImM w8 ib (hd (U ++ s0 :: Z) (some ⟨n, 0, none⟩)) (num + 1) → Blk w8 db 119 [.int .i8 0, .pointer none, .pointer (hd (U ++ s0 :: Z) (some ⟨n, 0, none⟩)), .nilIface] → Fr (fun b => base ≤ b) w0 w8 → K w8) →
        Store1 ⟨g.b, 0, none⟩ (.int .i8 (g.bal + sg g.d)) K w6 := by
      intro K hK
      refine store_intro g6 (by rw [ncl_len]; decide) rfl fun w8 b8 f8 z8 => ?_
      rw [ncl_set_bal] at b8
      have f58 : Fr (fun b => b = g.b) w5 w8 := (f6.mono fun _ h => h.elim).trans f8 fun b h => .inl h
      have hnd5 : (pbs U ++ (pbs P ++ (g.b :: (g.o.bs ++ pbs R)))).Nodup := by
        have h1 : (pbs (U ++ (P.map updF ++ g :: R))).Nodup := by rw [hpu]; exact hnd
        simpa only [pbs_append, updF_pbs, pbs] using h1
      have q1 : ∀ b ∈ pbs U, ¬ b = g.b := fun b hb e => (List.nodup_append.1 hnd5).2.2 b hb g.b (by simp) e
      have h2 := (List.nodup_append.1 hnd5).2.1
      have q2 : ∀ b ∈ pbs (P.map updF), ¬ b = g.b := fun b hb e => by rw [updF_pbs] at hb; exact (List.nodup_append.1 h2).2.2 b hb g.b (by simp) e
      have h3 := (List.nodup_append.1 h2).2.1
      simp only [List.nodup_cons, List.mem_append, not_or] at h3
      have q3 : ∀ b ∈ g.o.bs, ¬ b = g.b := fun b hb e => h3.1.1 (e ▸ hb)
      have q4 : ∀ b ∈ pbs R, ¬ b = g.b := fun b hb e => h3.1.2 (e ▸ hb)
      refine hK w8 ?_ b8 (L5.fr f58 fun b hb e' => ?_) (Blk.fr i5 f58 fun e' => ?_) (D5.fr f58 fun e' => ?_) (fr5.trans f58 fun b e' => .inl ?_)
      · rw [List.map_append, List.append_assoc, pm_append, pm_append]
        have eh : hd (P.map updF ++ ([g].map updF ++ R)) (some ⟨n, 0, none⟩) = hd (P.map updF ++ g :: R) (some ⟨n, 0, none⟩) := by cases P <;> rfl
        exact ⟨by rw [eh]; exact PM.fr f58 PU q1, PM.fr f58 PP q2, b8, hgo.fr f58 q3, PM.fr f58 PR q4⟩
      · simp [leaf, Tr.bs] at hb
        have : b = g.b := e'
        exact hgn (by omega)
      · exact ib1 g.b (mem_b (List.mem_append_right U hgm)) (by have : ib = g.b := e'; exact this.symm)
      · exact h.dbn (List.mem_append_left _ (by have : db = g.b := e'; rw [this]; exact mem_b (List.mem_append_right U hgm)))
      · have : b = g.b := e'
        have := h.hi g (List.mem_append_right U hgm)
        omega
    have again : ∀ w8, PM w8 (U ++ ((P ++ [g]).map updF ++ R)) (some ⟨n, 0, none⟩) → Blk w8 g.b 119 (ncl g.d (g.bal + sg g.d) g.e (hd R (some ⟨n, 0, none⟩)) g.o.ptr) → TrM w8 (leaf n e) → ImM w8 ib (hd (U ++ s0 :: Z) (some ⟨n, 0, none⟩)) (num + 1) → Blk w8 db 119 [.int .i8 0, .pointer none, .pointer (hd (U ++ s0 :: Z) (some ⟨n, 0, none⟩)), .nilIface] → Fr (fun b => base ≤ b) w0 w8 →
        F60_J3 k (fun im en dm p sp q hp w' => (im = some ⟨ib, 0, none⟩ ∧ en = encE e ∧ dm = ⟨db, 0, none⟩ ∧ sp = some ⟨s0.b, 0, none⟩ ∧ q = some ⟨n, 0, none⟩ ∧ hp = some ⟨hlp U db, 0, none⟩ ∧ ∃ P R, s0 :: Z = P ++ R ∧ p = hd R (some ⟨n, 0, none⟩) ∧ PM w' (U ++ (P.map updF ++ R)) (some ⟨n, 0, none⟩) ∧ TrM w' (leaf n e) ∧ ImM w' ib (hd (U ++ s0 :: Z) (some ⟨n, 0, none⟩)) (num + 1) ∧ Blk w' db 119 [.int .i8 0, .pointer none, .pointer (hd (U ++ s0 :: Z) (some ⟨n, 0, none⟩)), .nilIface] ∧ Fr (fun b => base ≤ b) w0 w') ∧
          (mn fun m => ∃ P R, s0 :: Z = P ++ R ∧ p = hd R (some ⟨n, 0, none⟩) ∧ R.length = m) < (mn fun m => ∃ P' R', s0 :: Z = P' ++ R' ∧ (some (⟨g.b, 0, none⟩ : Addr)) = hd R' (some ⟨n, 0, none⟩) ∧ R'.length = m)) (some ⟨ib, 0, none⟩) (encE e) ⟨db, 0, none⟩ (some ⟨g.b, 0, none⟩) (some ⟨s0.b, 0, none⟩) (some ⟨n, 0, none⟩) (dI g.d) (some ⟨hlp U db, 0, none⟩) w8 := by
      intro w8 a1 a2 a3 a4 a5 a6
      unfold F60_J3
      simp only [NN_mk, adr]
      refine ⟨dI_ok g.d, load_ptr a2 (ncl_c ..) ?_⟩
      refine ⟨⟨(by trivial), (by trivial), (by trivial), (by trivial), (by trivial), (by trivial), P ++ [g], R, by rw [hPR]; simp, rfl, a1, a3, a4, a5, a6⟩, ?_⟩
      obtain ⟨P', R', e1, e2, e3⟩ := mn_spec (P := fun m => ∃ P' R', s0 :: Z = P' ++ R' ∧ (some (⟨g.b, 0, none⟩ : Addr)) = hd R' (some ⟨n, 0, none⟩) ∧ R'.length = m) ⟨_, P, g :: R, hPR, rfl, rfl⟩
      refine mn_lt (m := R.length) ⟨P ++ [g], R, by rw [hPR]; simp, rfl, rfl⟩ ?_
      rw [← e3]
      -- the same node, the same rest
      cases R' with
      | nil => simp only [hd, Option.some.injEq, Addr.mk.injEq] at e2; exact absurd e2.1 hgn
      | cons g' R' =>
        simp only [hd, Option.some.injEq, Addr.mk.injEq] at e2
        have hlen : P.length = P'.length := by
          have hbn : ((s0 :: Z).map (·.b)).Nodup := by
            have hsub : ∀ R : List Fm, (R.map (·.b)).Sublist (pbs R) := by
              intro R
              induction R with
              | nil => exact List.Sublist.slnil
              | cons a R ih => simp only [List.map_cons, pbs]; exact (ih.trans (List.sublist_append_right _ _)).cons_cons _
            have : (pbs (s0 :: Z)).Nodup := by rw [pbs_append] at hnd; exact (List.nodup_append.1 hnd).2.1
            exact (hsub _).nodup this
          have h1 : ((s0 :: Z).map (·.b))[P.length]? = some g.b := by rw [hPR]; simp
          have h2 : ((s0 :: Z).map (·.b))[P'.length]? = some g.b := by rw [e1]; simp [e2.1]
          exact nodup_idx hbn h1 h2
        have hl := congrArg List.length hPR
        rw [e1] at hl
        simp only [List.length_append, List.length_cons] at hl ⊢
        omega
    have hgr : -1 ≤ g.bal ∧ g.bal ≤ 1 := by
      rcases List.mem_cons.1 hgm with rfl | hz
      · rcases sg_cases g.d with q | q
        · have := (plug_sub U (by rw [← plug_append]; exact h.avl) : (plug (g :: Z) nil).AVL)
          simp only [plug, avl_nd'] at this; exact this.2.2.2
        · have := (plug_sub U (by rw [← plug_append]; exact h.avl) : (plug (g :: Z) nil).AVL)
          simp only [plug, avl_nd'] at this; exact this.2.2.2
      · have := hlev g hz; omega
    cases hgd : g.d
    · simp only [dI, cond_false, show ((0 : Int) == 0) = true from rfl, BIf_true, NN_mk]
      rw [hgd] at step again g6
      refine load_int g6 (ncl_bal ..) ?_
      have es : subI .i8 g.bal 1 = g.bal + sg false := by
        have : g.bal = -1 ∨ g.bal = 0 ∨ g.bal = 1 := by omega
        rcases this with e | e | e <;> rw [e] <;> rfl
      rw [es]
      exact step _ fun w8 a1 a2 a3 a4 a5 a6 => again w8 a1 a2 a3 a4 a5 a6
    · simp only [dI, cond_true, show ((1 : Int) == 0) = false from rfl, BIf_false, NN_mk]
      rw [hgd] at step again g6
      refine load_int g6 (ncl_bal ..) ?_
      have es : addI .i8 g.bal 1 = g.bal + sg true := by
        have : g.bal = -1 ∨ g.bal = 0 ∨ g.bal = 1 := by omega
        rcases this with e | e | e <;> rw [e] <;> rfl
      rw [es]
      exact step _ fun w8 a1 a2 a3 a4 a5 a6 => again w8 a1 a2 a3 a4 a5 a6
  | nil =>
    rw [decide_eq_false (by simp [hd])]
    simp only [BIf_false, NN_mk]
    rw [List.append_nil] at hPR P5
    subst hPR
    -- what stands where s stood, and how the whole then lies
    have final : ∀ (R : Tr) (w6 : World), (plug U R).AVL → R.list = (plug ((s0 :: Z).map updF) (leaf n e)).list → R.bs.Perm (plug ((s0 :: Z).map updF) (leaf n e)).bs → (∀ b, R.ptr = some ⟨b, 0, none⟩ → base ≤ b) → TrM w6 R → PM w6 U (some ⟨s0.b, 0, none⟩) → ImM w6 ib (hd (U ++ s0 :: Z) (some ⟨n, 0, none⟩)) (num + 1) → Blk w6 db 119 [.int .i8 0, .pointer none, .pointer (hd (U ++ s0 :: Z) (some ⟨n, 0, none⟩)), .nilIface] → Known w6 (some ⟨s0.b, 0, none⟩) → Fr (fun b => base ≤ b) w0 w6 →
        F60_J4 k (some ⟨ib, 0, none⟩) ⟨db, 0, none⟩ R.ptr (some ⟨s0.b, 0, none⟩) (some ⟨hlp U db, 0, none⟩) w6 := by
      intro R w6 hav hl hp hroot hR hU him hdm hkn fr6
      have hcnt : ∀ a, R.bs.count a = (pbs (s0 :: Z) ++ [n]).count a := fun a => by
        rw [hp.count_eq, cnt_plug, updF_pbs]; simp [leaf, Tr.bs]
      have hnd6 : (pbs U ++ R.bs).Nodup := nodup_of hndn fun a => by
        rw [List.count_append, hcnt, pbs_append, List.count_append, List.count_append, List.count_append]; omega
      have hmem : ∀ b, b ∈ R.bs → b ∈ pbs (s0 :: Z) ∨ b = n := fun b hb => by
        rw [← List.count_pos_iff] at hb
        rw [hcnt, List.count_append] at hb
        rcases Nat.eq_zero_or_pos ((pbs (s0 :: Z)).count b) with h0 | h0
        · rw [h0, Nat.zero_add, List.count_pos_iff] at hb; exact .inr (by simpa using hb)
        · exact .inl (List.count_pos_iff.1 h0)
      have hsR : s0.b ∈ R.bs := by
        rw [← List.count_pos_iff, hcnt, List.count_append]
        have : 0 < (pbs (s0 :: Z)).count s0.b := List.count_pos_iff.2 (by simp [pbs])
        omega
      have hin6 : ib < w1.heap.size := hin
      have hibR : ib ∉ pbs U ++ R.bs := fun hb => by
        rcases List.mem_append.1 hb with hb | hb
        · exact ib1 ib (by rw [pbs_append]; exact List.mem_append_left _ hb) rfl
        · rcases hmem ib hb with hb | hb
          · exact ib1 ib (by rw [pbs_append]; exact List.mem_append_right _ hb) rfl
          · omega
      rw [hd_append] at him hdm
      simp only [hd] at him hdm
      refine J4_spec (base := base) (w0 := w0) (num := num + 1) (s := plug (s0 :: Z) nil) ⟨_, him⟩ hU (by rw [plug_ptr]; rfl) hkn hR hdm hnd6 hsR hibR (fun f hf => h.hi f (List.mem_append_left _ hf)) hibb fr6 (fun _ => him) fun w7 a1 a2 a3 => ?_
      have hlist' : (plug U R).list = inL (U ++ s0 :: Z) ++ e :: inR (U ++ s0 :: Z) := by
        rw [plug_list, hl, plug_list, updF_inL, updF_inR, inL_append, inR_append]; simp [leaf, Tr.list]
      have hI : InsL t.list e (plug U R).list none := by rw [hlist']; exact hInsL
      have hlk := hI.look hsrt
      refine hk (plug U R) w7 ⟨a1, a2, hav, hI.srt hsrt, nodup_of hnd6 fun a => by rw [cnt_plug], ?_, fun b hb => ?_, hibb⟩ hI (fun b hb => ?_) a3
      · rw [hlk.2.2, hN]; simp
      · rw [plug_ptr] at hb
        cases U with
        | nil => exact hroot b hb
        | cons a V => simp only [hd, Option.some.injEq, Addr.mk.injEq] at hb; have := h.hi a (by simp); omega
      · have hb' : b ∈ pbs U ++ R.bs := by
          rw [← List.count_pos_iff] at hb ⊢
          rw [← cnt_plug]; exact hb
        rcases List.mem_append.1 hb' with hb' | hb'
        · exact h.sub b (List.mem_append_left _ (by rw [pbs_append]; exact List.mem_append_left _ hb'))
        · rcases hmem b hb' with hb' | hb'
          · exact h.sub b (List.mem_append_left _ (by rw [pbs_append]; exact List.mem_append_right _ hb'))
          · have := h.fr.size; have := f1.size; exact .inr (by omega)
    rw [pm_append] at P5
    obtain ⟨PU, PD⟩ := P5
    simp only [List.map_cons, hd] at PU PD
    have hPT : TrM w5 (plug ((s0 :: Z).map updF) (leaf n e)) := (trm_plug ..).2 ⟨PD, L5⟩
    obtain ⟨hs5, hso, PZ⟩ := PD
    have hs5' : Blk w5 s0.b 119 (ncl s0.d (s0.bal + sg s0.d) s0.e (hd (Z.map updF) (some ⟨n, 0, none⟩)) s0.o.ptr) := hs5
    refine load_int hs5' (ncl_bal ..) ?_
    refine conv_abs hrange (abs_gt hrange ?_)
    have hptr : (plug ((s0 :: Z).map updF) (leaf n e)).ptr = some ⟨s0.b, 0, none⟩ := by rw [plug_ptr]; rfl
    have hs0b := h.hi s0 (by simp)
    by_cases h2 : s0.bal + sg s0.d = 2 ∨ s0.bal + sg s0.d = -2
    · rw [decide_eq_true h2]
      simp only [BIf_true, NN_mk]
      obtain ⟨hb1, hZ, hNh, hRok⟩ := gBad h2
      refine load_any (i := 3) hs5' (ncl_e ..) ?_
      refine cmpE fun w6 f6 => ?_
      obtain ⟨hd1, hd2⟩ := hdir s0 (List.mem_cons_self ..)
      refine F71_call (F71_spec (back_int ?_))
      rw [dir_val hd1 hd2]
      have hndS : (s0.b :: ((plug (Z.map updF) (leaf n e)).bs ++ s0.o.bs)).Nodup := by
        have h1 : (pbs (s0 :: Z) ++ [n]).Nodup := by
          refine List.Sublist.nodup ?_ hndn
          rw [pbs_append]
          exact (List.sublist_append_right _ _).append_right _
        refine nodup_of h1 fun a => ?_
        rw [List.count_cons, List.count_append, cnt_plug, updF_pbs]
        simp only [pbs, leaf, Tr.bs, List.nil_append, List.count_append, List.count_cons, List.cons_append, List.count_nil]; omega
      obtain ⟨z, Z', rfl⟩ : ∃ z Z', Z = z :: Z' := by cases Z with | nil => exact absurd rfl hZ | cons a b => exact ⟨a, b, rfl⟩
      have hzb := h.hi z (by simp)
      have hzbal := hlev z (List.mem_cons_self ..)
      refine F73_call (F73_spec (S := fun b => base ≤ b ∧ (b ∈ pbs (s0 :: z :: Z') ∨ b = n)) (hPT.fr0 f6) hndS gN hNh (fun b bal e' c o' hh => ?_) ⟨hs0b, .inl (by simp [pbs])⟩ (fun b bal e' c o' hh => ?_) (fun b bal e' o' b' bal' e'' x y hh hbal => ?_) fun R w7 hrot hR hRr f7 => back_ptr ?_)
      · simp only [List.map_cons, plug, updF] at hh
        obtain ⟨_, q, _⟩ := nd'_inj hh
        rw [← q, hzbal]
        rcases sg_cases z.d with g | g <;> omega
      · simp only [List.map_cons, plug, updF] at hh
        obtain ⟨q, _⟩ := nd'_inj hh
        rw [← q]
        exact ⟨hzb, .inl (by simp [pbs])⟩
      · simp only [List.map_cons, plug, updF] at hh
        obtain ⟨q1, q2, _, q3⟩ := nd'_inj hh
        have hzd : z.d = !s0.d := by
          rw [hzbal] at q2
          rw [← q2] at hbal
          cases hz : z.d <;> cases hs : s0.d <;> rw [hz, hs] at hbal <;> first | rfl | (simp [sg] at hbal)
        obtain ⟨q4, _⟩ := q3 hzd
        cases Z' with
        | nil => simp only [List.map_nil, plug, leaf] at q4; cases hs : s0.d <;> rw [hs] at q4 <;> simp only [nd', cond_true, cond_false, Tr.nd.injEq] at q4 <;> exact ⟨by omega, .inr (by omega)⟩
        | cons z2 Z2 =>
          simp only [List.map_cons, plug, updF] at q4
          obtain ⟨q5, _⟩ := nd'_inj q4
          have := h.hi z2 (by simp)
          rw [← q5]
          exact ⟨this, .inl (by simp [pbs])⟩
      · have hrok := hrot.ok gN gO hNh
        refine final R w7 (hRok R hrok.1 (by rw [hrok.2.1]; simp)) ?_ ?_ (fun b hb => (hRr b hb).1) hR ?_ ?_ ?_ ?_ ((fr5.trans f6 fun _ h => h.elim).trans f7 fun b hb => .inl hb.1)
        · rw [hrok.2.2]; simp only [List.map_cons, plug, list_nd', updF]
        · refine hrot.bs.trans (List.Perm.symm ?_)
          exact (bs_nd' ..)
        · refine (PM.fr f6 PU fun _ _ h => h).fr f7 fun b hb h => ?_
          rcases h.2 with h | h
          · rw [pbs_append] at hnd; exact (List.nodup_append.1 hnd).2.2 b hb b h rfl
          · have := hnlt b (by rw [pbs_append]; exact List.mem_append_left _ hb); omega
        · refine (Blk.fr i5 f6 id).fr f7 fun h => ?_
          rcases h.2 with h | h
          · exact ib1 ib (by rw [pbs_append]; exact List.mem_append_right _ h) rfl
          · omega
        · refine (D5.fr f6 id).fr f7 fun h => ?_
          rcases h.2 with h | h
          · exact hdbn (List.mem_append_left _ (by rw [pbs_append]; exact List.mem_append_right _ h))
          · have := D5.lt; have := hdbl; omega
        · have hm : s0.b ∈ R.bs := by
            rw [← List.count_pos_iff, hrot.bs.count_eq]; simp
          obtain ⟨us, hu⟩ := blk_of hR hm
          exact .inr ⟨_, _, _, rfl, hu⟩
    · rw [decide_eq_false h2]
      simp only [BIf_false]
      have := final _ w5 (gOk ⟨fun h => h2 (.inl h), fun h => h2 (.inr h)⟩) rfl (.refl _) (fun b hb => by rw [hptr] at hb; cases hb; exact hs0b) hPT PU i5 D5 (.inr ⟨_, _, _, rfl, hs5⟩) fr5
      rwa [hptr] at this
end
end Go.Proofs.Ytokejbejoegnnaa.E
