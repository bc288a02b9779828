/-
  An insertion, walked: the way down, and the whole.
-/
import Derived.Test.YtokejbejoegnnaaAvK
namespace Go.Proofs.Ytokejbejoegnnaa.E
open Go Tr
set_option linter.unusedSimpArgs false
set_option linter.unusedVariables false
set_option maxRecDepth 100000
set_option maxHeartbeats 4000000

section
variable {k : Value → W} {w0 : World} {base ib db num : Nat} {t : Tr} {e : It2}
theorem srt_sub {R : List Fm} {c : Tr} (h : Srt (plug R c).list) : Srt c.list := by
  rw [plug_list] at h
  exact ((List.pairwise_append.1 ((List.pairwise_append.1 h).1)).2).1
/-- One node further down: the path has it, the focus is its child. -/
theorem Way.down {w w' : World} {U D U' D' : List Fm} {d : Bool} {b : Nat} {bal : Int} {e0 : It2} {ch c' o : Tr} (h : Way w0 base ib db num t e U D (nd' d b bal e0 ch o) w) (hsrt : Srt t.list) (hb : base ≤ b) (hc0 : D ≠ [] → bal = 0) (hd1 : d = true → kx e0 < kx e) (hd2 : d = false → kx e < kx e0)
    (hpath : U' ++ D' = U ++ (D ++ [⟨b, bal, d, e0, o⟩])) (hlev : ∀ f ∈ D'.tail, f.bal = 0) (hs : U' = [] ∨ (∀ f, D'.head? = some f → f.bal ≠ 0) ∧ (D' = [] → ∀ d b bal e' x y, c' = nd' d b bal e' x y → bal ≠ 0))
    (hch : c'.h = ch.h ∧ c'.list = ch.list ∧ (ch.AVL → c'.AVL)) (hnd : (pbs (U ++ (D ++ [⟨b, bal, d, e0, o⟩])) ++ c'.bs).Nodup) (him : ImM w' ib t.ptr num) (hP : PM w' (U ++ (D ++ [⟨b, bal, d, e0, o⟩])) c'.ptr) (hT : TrM w' c')
    (hdm : Blk w' db 119 [.int .i8 0, .pointer none, .pointer (hd (U ++ D) (some ⟨b, 0, none⟩)), .nilIface]) (hdbn : db ∉ c'.bs) (hsub' : ∀ a ∈ c'.bs, a ∈ t.bs ∨ w0.heap.size ≤ a) (hfr : Fr (fun b => base ≤ b) w0 w') (hsz : base ≤ w'.heap.size) : Way w0 base ib db num t e U' D' c' w' := by
  have hsub : Srt (nd' d b bal e0 ch o).list := srt_sub (R := U ++ D) (by rw [h.list]; exact hsrt)
  rw [list_nd'] at hsub
  have hplug : plug (U' ++ D') ch = plug (U ++ D) (nd' d b bal e0 ch o) := by rw [hpath, ← List.append_assoc, plug_append (U ++ D)]; rfl
  refine ⟨him, (trm_plug ..).2 ⟨by rw [hpath]; exact hP, hT⟩, ?_, ?_, by rw [hpath]; exact hnd, ?_, ?_, ?_, hlev, hs, ?_, ?_, ?_, h.dbb, ?_, h.ibb, hsz, hfr⟩
  · have hav := h.avl
    rw [← hplug] at hav
    exact (plug_avl _ hav (hch.2.2 (plug_sub _ hav)) hch.1).1
  · rw [plug_list, hch.2.1, ← plug_list, hplug]; exact h.list
  · rw [hpath]
    intro f hf
    rcases List.mem_append.1 hf with hf | hf
    · exact h.hi f (List.mem_append_left _ hf)
    · rcases List.mem_append.1 hf with hf | hf
      · exact h.hi f (List.mem_append_right _ hf)
      · simp only [List.mem_singleton] at hf; subst hf; exact hb
  · rw [hpath, ← List.append_assoc, inL_append]
    intro x hx
    rcases List.mem_append.1 hx with hx | hx
    · exact h.lo x hx
    · cases d
      · simp [inL] at hx
      · simp only [inL, cond_true, List.append_nil, List.mem_append, List.mem_singleton] at hx
        have h1 := hd1 rfl
        rcases hx with hx | rfl
        · have := (srt_mid (A := o.list) (x := e0) (B := ch.list) hsub).1 x hx; omega
        · exact h1
  · rw [hpath, ← List.append_assoc, inR_append]
    intro x hx
    rcases List.mem_append.1 hx with hx | hx
    · cases d
      · simp only [inR, cond_false, List.nil_append, List.mem_cons] at hx
        have h1 := hd2 rfl
        rcases hx with rfl | hx
        · exact h1
        · have := (srt_mid (A := ch.list) (x := e0) (B := o.list) hsub).2.1 x hx; omega
      · simp [inR] at hx
    · exact h.up x hx
  · rw [hpath, ← List.append_assoc, hd_append]
    exact hdm
  · have := h.rp
    rw [ptr_nd'] at this
    rw [hpath, ← List.append_assoc, hd_append]
    exact this
  · rw [hpath]
    intro a ha
    rcases List.mem_append.1 ha with ha | ha
    · refine h.sub a ?_
      rw [← List.append_assoc, pbs_append] at ha
      rcases List.mem_append.1 ha with hm | hm
      · exact List.mem_append_left _ hm
      · refine List.mem_append_right _ ?_
        simp only [pbs, List.append_nil, List.mem_cons] at hm
        refine (bs_nd' ..).mem_iff.2 ?_
        simp only [List.mem_cons, List.mem_append]
        rcases hm with hm | hm
        · exact .inl hm
        · exact .inr (.inr hm)
    · exact hsub' a ha
  · rw [hpath]
    intro hm
    rcases List.mem_append.1 hm with hm | hm
    · refine h.dbn ?_
      rw [← List.append_assoc, pbs_append] at hm
      rcases List.mem_append.1 hm with hm | hm
      · exact List.mem_append_left _ hm
      · refine List.mem_append_right _ ?_
        simp only [pbs, List.append_nil, List.mem_cons] at hm
        refine (bs_nd' ..).mem_iff.2 ?_
        simp only [List.mem_cons, List.mem_append]
        rcases hm with hm | hm
        · exact .inl hm
        · exact .inr (.inr hm)
    · exact hdbn hm
theorem Way.fr0 {w w' : World} {U D : List Fm} {c : Tr} (h : Way w0 base ib db num t e U D c w) (f : Fr (fun _ => False) w w') : Way w0 base ib db num t e U D c w' :=
  ⟨Blk.fr h.im f id, h.tr.fr0 f, h.avl, h.list, h.nd, h.hi, h.lo, h.up, h.lev, h.s, h.dm.fr f id, h.rp, h.sub, h.dbb, h.dbn, h.ibb, Nat.le_trans h.sz f.size, h.fr.trans f fun _ h => h.elim⟩
theorem stepD {w : World} {U D : List Fm} {d : Bool} {b : Nat} {bal : Int} {e0 : It2} {ch o : Tr} {again : Option Addr → Value → Addr → Option Addr → Option Addr → Option Addr → W} (h : Way w0 base ib db num t e U D (nd' d b bal e0 ch o) w) (hsrt : Srt t.list) (hb : base ≤ b) (hc0 : D ≠ [] → bal = 0) (hd1 : d = true → kx e0 < kx e) (hd2 : d = false → kx e < kx e0)
    (hagain : ∀ U' D' b' bal' l' e' r' w', Way w0 base ib db num t e U' D' (.nd b' bal' l' e' r') w' → (Tr.nd b' bal' l' e' r').bs.length < (nd' d b bal e0 ch o).bs.length → (D' ≠ [] → bal' = 0) → base ≤ b' → again (some ⟨ib, 0, none⟩) (encE e) ⟨db, 0, none⟩ (some ⟨b', 0, none⟩) (hd D' (some ⟨b', 0, none⟩)) (some ⟨hlp U' db, 0, none⟩) w')
    (hJ2 : ∀ w', Way w0 base ib db num t e U (D ++ [⟨b, bal, d, e0, o⟩]) nil w' → F60_J2 k (some ⟨ib, 0, none⟩) (encE e) ⟨db, 0, none⟩ (some ⟨b, 0, none⟩) (hd (D ++ [⟨b, bal, d, e0, o⟩]) none) (dI d) (some ⟨hlp U db, 0, none⟩) w') :
    (LoadT .ptr ⟨b, 1 + sd d, none⟩ fun p31 =>
      BIf (!p31.isNone) (
       Req (0 ≤ dI d ∧ dI d < (2 : Int)) <|
       LoadT .ptr ⟨b, 1 + sd d, none⟩ fun p33 =>
       CallT Try.prog 68 [.pointer p33] (.s (.one .ptr)) fun p34 =>
       Req (0 ≤ dI d ∧ dI d < (2 : Int)) <|
       Store1 ⟨b, 1 + sd d, none⟩ (.pointer p34) <|
       F60_J1 k again (some ⟨ib, 0, none⟩) (encE e) ⟨db, 0, none⟩ (some ⟨b, 0, none⟩) (hd D (some ⟨b, 0, none⟩)) p34 (dI d) (some ⟨hlp U db, 0, none⟩)) (
       F60_J1 k again (some ⟨ib, 0, none⟩) (encE e) ⟨db, 0, none⟩ (some ⟨b, 0, none⟩) (hd D (some ⟨b, 0, none⟩)) none (dI d) (some ⟨hlp U db, 0, none⟩))) w := by
  obtain ⟨hib1, hib2⟩ := h.ibn
  have hT := (trm_plug ..).1 h.tr
  rw [trm_nd'] at hT
  obtain ⟨hP, hbB, hch, ho⟩ := hT
  rw [ptr_nd'] at hP
  have hdm := h.dm
  rw [ptr_nd'] at hdm
  have hcnt : ∀ a, (pbs (U ++ (D ++ [(⟨b, bal, d, e0, o⟩ : Fm)])) ++ ch.bs).count a = (pbs (U ++ D) ++ (nd' d b bal e0 ch o).bs).count a := fun a => by
    simp only [pbs_append, pbs, List.count_append, List.count_cons, cnt_nd', List.append_nil, List.count_nil]; omega
  have hnd0 : (pbs (U ++ (D ++ [(⟨b, bal, d, e0, o⟩ : Fm)])) ++ ch.bs).Nodup := nodup_of h.nd hcnt
  have hbl : (nd' d b bal e0 ch o).bs.length = 1 + (ch.bs.length + o.bs.length) := by rw [(bs_nd' ..).length_eq]; simp; omega
  refine load_ptr hbB (ncl_c ..) ?_
  cases ch with
  | nil =>
    simp only [Tr.ptr, Option.isNone_none, Bool.not_true, BIf_false]
    unfold F60_J1
    simp only [Option.isNone_none, BIf_true]
    have hw : Way w0 base ib db num t e U (D ++ [⟨b, bal, d, e0, o⟩]) nil w := by
      refine h.down hsrt hb hc0 hd1 hd2 rfl ?_ ?_ ⟨rfl, rfl, id⟩ hnd0 h.im ?_ trivial hdm (by simp [Tr.bs]) (fun a ha => by cases ha) h.fr h.sz
      · intro f hf
        cases D with
        | nil => simp at hf
        | cons a D =>
          simp only [List.cons_append, List.tail_cons, List.mem_append, List.mem_singleton] at hf
          rcases hf with hf | hf
          · exact h.lev f (by simpa using hf)
          · subst hf; exact hc0 (by simp)
      · refine h.s.imp id fun hs => ⟨fun f hf => ?_, fun hn => by simp at hn⟩
        cases D with
        | nil => simp only [List.nil_append, List.head?_cons, Option.some.injEq] at hf; subst hf; exact hs.2 rfl d b bal e0 _ o rfl
        | cons a D => simp only [List.cons_append, List.head?_cons, Option.some.injEq] at hf; subst hf; exact hs.1 a rfl
      · rw [← List.append_assoc, pm_append]
        exact ⟨hP, hbB, ho, trivial⟩
    have := hJ2 w hw
    rw [hd_append] at this
    exact this
  | nd bc balc lc ec rc =>
    simp only [Tr.ptr, Option.isNone_some, Bool.not_false, BIf_true]
    refine ⟨dI_ok d, load_ptr hbB (ncl_c ..) ?_⟩
    simp only [Tr.ptr]
    refine F68_call (F68_spec hch.1 fun n w1 hn b1 f1 => back_ptr ?_)
    have hbB1 := hbB.fr f1 id
    refine ⟨dI_ok d, store_intro hbB1 (by rw [ncl_len]; exact sd_lt d) rfl fun w2 b2 f2 z2 => ?_⟩
    rw [ncl_set_c] at b2
    unfold F60_J1
    simp only [Option.isNone_some, BIf_false, NN_mk]
    have hbl' := hbB.lt
    have hnb : ¬ n = b := fun e => by omega
    have n2 := b1.fr f2 hnb
    refine load_int (i := 0) n2 rfl ?_
    have hlt : ∀ a ∈ pbs (U ++ (D ++ [(⟨b, bal, d, e0, o⟩ : Fm)])) ++ (Tr.nd bc balc lc ec rc).bs, a < w.heap.size := fun a ha => by
      have hm : a ∈ pbs (U ++ D) ++ (nd' d b bal e0 (Tr.nd bc balc lc ec rc) o).bs := by
        rw [← List.count_pos_iff] at ha ⊢; rw [← hcnt]; exact ha
      have : a ∈ (plug (U ++ D) (nd' d b bal e0 (Tr.nd bc balc lc ec rc) o)).bs := by
        rw [← List.count_pos_iff] at hm ⊢; rw [cnt_plug]; exact hm
      exact h.tr.lt a this
    -- nothing else lies at b
    have hnb0 : ∀ a ∈ pbs (U ++ D), ¬ a = b := fun a ha e' => by
      refine (List.nodup_append.1 h.nd).2.2 a ha b ?_ e'
      exact (bs_nd' ..).mem_iff.2 (by simp)
    have hnin : (b :: ((Tr.nd bc balc lc ec rc).bs ++ o.bs)).Nodup := (bs_nd' ..).nodup_iff.1 (List.nodup_append.1 h.nd).2.1
    simp only [List.nodup_cons, List.mem_append, not_or] at hnin
    have hobs : ∀ a ∈ o.bs, ¬ a = b := fun a ha e' => hnin.1.2 (e' ▸ ha)
    have hcbs : ∀ a ∈ (Tr.nd bc balc lc ec rc).bs, ¬ a = b := fun a ha e' => hnin.1.1 (e' ▸ ha)
    have f02 : Fr (fun a => a = b) w w2 := (f1.mono fun _ h => h.elim).trans f2 fun _ h => .inl h
    have hP2 : PM w2 (U ++ (D ++ [(⟨b, bal, d, e0, o⟩ : Fm)])) (some ⟨n, 0, none⟩) := by
      rw [← List.append_assoc, pm_append]
      exact ⟨PM.fr f02 hP hnb0, b2, ho.fr f02 hobs, trivial⟩
    have hl2 : TrM w2 lc := hch.2.1.fr f02 fun a ha => hcbs a (by simp [Tr.bs, ha])
    have hr2 : TrM w2 rc := hch.2.2.fr f02 fun a ha => hcbs a (by simp [Tr.bs, ha])
    have hc2 : TrM w2 (.nd n balc lc ec rc) := ⟨n2, hl2, hr2⟩
    have him2 : ImM w2 ib t.ptr num := Blk.fr h.im f02 fun e' => hib2 (List.mem_append_right _ ((bs_nd' ..).mem_iff.2 (by have : ib = b := e'; simp [this])))
    have hdm2 := hdm.fr f02 fun e' => h.dbn (List.mem_append_right _ ((bs_nd' ..).mem_iff.2 (by have : db = b := e'; simp [this])))
    have hnd2 : (pbs (U ++ (D ++ [(⟨b, bal, d, e0, o⟩ : Fm)])) ++ (Tr.nd n balc lc ec rc).bs).Nodup := by
      have h1 := List.nodup_append.1 hnd0
      refine List.nodup_append.2 ⟨h1.1, ?_, fun a ha c hc e' => ?_⟩
      · have h2 := h1.2.1
        simp only [Tr.bs, List.nodup_cons] at h2 ⊢
        exact ⟨fun hm => by have := hlt n (List.mem_append_right _ (by simp only [Tr.bs, List.mem_cons]; exact .inr hm)); omega, h2.2⟩
      · simp only [Tr.bs, List.mem_cons] at hc
        rcases hc with rfl | hc
        · have := hlt a (List.mem_append_left _ ha); omega
        · exact h1.2.2 a ha c (by simp only [Tr.bs, List.mem_cons]; exact .inr hc) e'
    have hsz := h.sz
    have hdb := h.dm.lt
    have hdbn2 : db ∉ (Tr.nd n balc lc ec rc).bs := fun hm => by
      simp only [Tr.bs, List.mem_cons] at hm
      rcases hm with hm | hm
      · omega
      · refine h.dbn (List.mem_append_right _ ((bs_nd' ..).mem_iff.2 ?_))
        simp only [Tr.bs, List.mem_cons, List.mem_append] at hm ⊢
        exact .inr (.inl (.inr hm))
    have hsub2 : ∀ a ∈ (Tr.nd n balc lc ec rc).bs, a ∈ t.bs ∨ w0.heap.size ≤ a := fun a ha => by
      simp only [Tr.bs, List.mem_cons] at ha
      rcases ha with rfl | ha
      · have := h.fr.size; exact .inr (by omega)
      · refine h.sub a (List.mem_append_right _ ((bs_nd' ..).mem_iff.2 ?_))
        simp only [Tr.bs, List.mem_cons, List.mem_append] at ha ⊢
        exact .inr (.inl (.inr ha))
    have hfr2 : Fr (fun b => base ≤ b) w0 w2 := h.fr.trans f02 fun a e' => .inl (by have : a = b := e'; omega)
    have hsz2 : base ≤ w2.heap.size := by have := f02.size; omega
    have hless : (Tr.nd n balc lc ec rc).bs.length < (nd' d b bal e0 (Tr.nd bc balc lc ec rc) o).bs.length := by rw [hbl]; simp only [Tr.bs, List.length_cons, List.length_append]; omega
    by_cases hz : balc = 0
    · rw [show (balc != 0) = false by simp [hz]]
      simp only [BIf_false]
      have hw := h.down (U' := U) (D' := D ++ [⟨b, bal, d, e0, o⟩]) (c' := .nd n balc lc ec rc) hsrt hb hc0 hd1 hd2 rfl (fun f hf => by
        cases D with
        | nil => simp at hf
        | cons a D =>
          simp only [List.cons_append, List.tail_cons, List.mem_append, List.mem_singleton] at hf
          rcases hf with hf | hf
          · exact h.lev f (by simpa using hf)
          · subst hf; exact hc0 (by simp)) (h.s.imp id fun hs => ⟨fun f hf => by
        cases D with
        | nil => simp only [List.nil_append, List.head?_cons, Option.some.injEq] at hf; subst hf; exact hs.2 rfl d b bal e0 _ o rfl
        | cons a D => simp only [List.cons_append, List.head?_cons, Option.some.injEq] at hf; subst hf; exact hs.1 a rfl, fun hn => by simp at hn⟩) ⟨rfl, rfl, id⟩ hnd2 him2 hP2 hc2 hdm2 hdbn2 hsub2 hfr2 hsz2
      have := hagain U (D ++ [⟨b, bal, d, e0, o⟩]) n balc lc ec rc w2 hw hless (fun _ => hz) (by omega)
      rw [hd_append] at this
      exact this
    · rw [show (balc != 0) = true by simpa using hz]
      simp only [BIf_true]
      have hw := h.down (U' := U ++ (D ++ [⟨b, bal, d, e0, o⟩])) (D' := []) (c' := .nd n balc lc ec rc) hsrt hb hc0 hd1 hd2 (by simp) (fun f hf => by simp at hf) (.inr ⟨fun f hf => by simp at hf, fun _ d' b' bal' e' x y hh => by
        have : (nd' false n balc ec lc rc) = nd' d' b' bal' e' x y := hh
        obtain ⟨_, q, _⟩ := nd'_inj this
        rw [← q]; exact hz⟩) ⟨rfl, rfl, id⟩ hnd2 him2 hP2 hc2 hdm2 hdbn2 hsub2 hfr2 hsz2
      have := hagain (U ++ (D ++ [⟨b, bal, d, e0, o⟩])) [] n balc lc ec rc w2 hw hless (fun hh => absurd rfl hh) (by omega)
      rw [← List.append_assoc, hlp_snoc] at this
      exact this
/-- insert. -/
theorem F60_spec {w : World} (hT : TM w base ib t num) (hsz : base ≤ w.heap.size) (hnum : num < 4294967296)
    (hk : ∀ t' v num' w', TM w' base ib t' num' → InsL t.list e t'.list v → num' = num + (if v = none then 1 else 0) → (∀ b ∈ t'.bs, b ∈ t.bs ∨ w.heap.size ≤ b) → Fr (fun b => base ≤ b) w w' → k (vE v) w') : F60 k (some ⟨ib, 0, none⟩) (encE e) w := by
  have hibb := hT.ibb
  unfold F60
  simp only [NN_mk]
  refine load_ptr (i := 0) hT.im rfl ?_
  cases t with
  | nil =>
    simp only [Tr.ptr, Option.isNone_none, BIf_true]
    refine F69_call (F69_spec rfl fun n w1 e1 b1 f1 z1 => back_ptr ?_)
    have i1 := Blk.fr hT.im f1 id
    refine store_intro (i := 0) i1 (by simp) rfl fun w2 i2 f2 z2 => ?_
    simp only [List.set_cons_zero] at i2
    refine load_int (i := 1) i2 rfl ?_
    refine store_intro (i := 1) i2 (by simp) rfl fun w3 i3 f3 z3 => ?_
    have ea : addI .u64 (num : Nat) 1 = ((num + 1 : Nat) : Int) := by rw [addI_u64 (by omega) (by omega)]; omega
    rw [ea] at i3
    have hin := i1.lt
    have hnl : ¬ n = ib := fun e' => by
      subst e'
      exact absurd (b1.unique i1).1 (by decide)
    have n3 := (b1.fr f2 hnl).fr f3 hnl
    have h0 : num = 0 := hT.num
    refine hk (leaf n e) none (num + 1) w3 ⟨i3, ⟨n3, trivial, trivial⟩, (leaf_avl n e).1, List.pairwise_singleton .., by simp [leaf, Tr.bs], by rw [h0]; rfl, fun b hb => by simp only [leaf, Tr.ptr, Option.some.injEq, Addr.mk.injEq] at hb; omega, hibb⟩ (.new (A := []) (B := []) rfl (fun y h => by cases h) fun y h => by cases h) rfl (fun b hb => .inr (by simp [leaf, Tr.bs] at hb; omega)) (((f1.mono fun _ h => h.elim).trans f2 fun b e' => .inl (by have : b = ib := e'; omega)).trans f3 fun b e' => .inl (by have : b = ib := e'; omega))
  | nd rb rbal rl re rr =>
    simp only [Tr.ptr, Option.isNone_some, BIf_false]
    refine F70_call ?_
    unfold F70
    refine drw_intro fun w1 f1 z1 => ?_
    have i1 := Blk.fr hT.im f1 id
    simp only [NN_mk]
    refine ⟨by decide, store_intro (i := 3) i1 (by simp) rfl fun w2 i2 f2 z2 => ⟨by decide, store_intro (i := 4) i2 (by simp) rfl fun w3 i3 f3 z3 => ?_⟩⟩
    refine store_intro (i := 2) i3 (by simp) rfl fun w4 i4 f4 z4 => back0 ?_
    have im4 : ImM w4 ib (some ⟨rb, 0, none⟩) num := i4
    refine load_int (i := 2) im4 rfl (load_ptr (i := 3) im4 rfl (load_ptr (i := 4) im4 rfl (load_any (i := 5) im4 rfl ?_)))
    refine new_intro fun db w5 e5 b5 f5 z5 => ?_
    refine store_intro (i := 0) b5 (by simp) rfl fun w6 b6 f6 z6 => ?_
    refine store_intro (i := 1) b6 (by simp) rfl fun w7 b7 f7 z7 => ?_
    refine store_intro (i := 2) b7 (by simp) rfl fun w8 b8 f8 z8 => ?_
    refine store_intro (i := 3) b8 (by simp) rfl fun w9 b9 f9 z9 => ?_
    refine drw_intro fun wa fa za => ?_
    have f5a : Fr (fun b => b = db) w5 wa := (((f6.trans f7 fun b h => .inl h).trans f8 fun b h => .inl h).trans f9 fun b h => .inl h).trans fa fun _ h => h.elim
    have f4a : Fr (fun _ => False) w4 wa := f5.trans f5a fun b h => .inr (by have : b = db := h; omega)
    have ima := Blk.fr im4 f4a id
    have ba := b9.fr fa id
    try simp only [NN_mk]
    refine load_ptr (i := 0) ima rfl ⟨by decide, store_intro (i := 2) ba (by simp) rfl fun wb bb fb zb => ?_⟩
    refine drw_intro fun wc fc zc => ?_
    have bc := bb.fr fc id
    refine ⟨by decide, load_ptr (i := 2) bc rfl ⟨by decide, load_ptr (i := 2) bc rfl ?_⟩⟩
    have f14 : Fr (fun b => b = ib) w w4 := (((f1.mono fun _ h => h.elim).trans f2 fun b h => .inl h).trans f3 fun b h => .inl h).trans f4 fun b h => .inl h
    have f4c : Fr (fun _ => False) w4 wc := (f4a.trans fb fun b h => .inr (by have : b = db := h; omega)).trans fc fun _ h => h.elim
    have hibn : ∀ b ∈ (Tr.nd rb rbal rl re rr).bs, ¬ b = ib := fun b hb e' => by
      obtain ⟨us, hu⟩ := blk_of hT.tr hb
      rw [e'] at hu
      exact absurd (hu.unique hT.im).1 (by decide)
    have tc : TrM wc (.nd rb rbal rl re rr) := (hT.tr.fr f14 hibn).fr0 f4c
    have hz14 := f14.size
    have hw : Way w base ib db num (.nd rb rbal rl re rr) e [] [] (.nd rb rbal rl re rr) wc := by
      refine ⟨Blk.fr im4 f4c id, tc, hT.avl, rfl, hT.nd, fun f h => (by cases h), fun x h => (by cases h), fun x h => (by cases h), fun f h => (by cases h), .inl rfl, bc, rfl, fun b hb => .inl (by simpa [pbs] using hb), by omega, fun hm => ?_, hibb, by have := f4c.size; omega, (f14.mono fun b h => .inl (by have : b = ib := h; omega)).trans f4c fun _ h => h.elim⟩
      have := hT.tr.lt db hm; omega
    have hroot := hT.root rb rfl
    refine F60_L1_rule (fun im en dm p s hp w' => im = some ⟨ib, 0, none⟩ ∧ en = encE e ∧ dm = ⟨db, 0, none⟩ ∧ ∃ m U D b bal l e0 r, Way w base ib db num (.nd rb rbal rl re rr) e U D (.nd b bal l e0 r) w' ∧ (Tr.nd b bal l e0 r).bs.length = m ∧ p = some ⟨b, 0, none⟩ ∧ s = hd D (some ⟨b, 0, none⟩) ∧ hp = some ⟨hlp U db, 0, none⟩ ∧ (D ≠ [] → bal = 0) ∧ base ≤ b)
      (fun _ _ _ p s hp w' => mn fun m => ∃ U D b bal l e0 r, Way w base ib db num (.nd rb rbal rl re rr) e U D (.nd b bal l e0 r) w' ∧ (Tr.nd b bal l e0 r).bs.length = m ∧ p = some ⟨b, 0, none⟩ ∧ s = hd D (some ⟨b, 0, none⟩) ∧ hp = some ⟨hlp U db, 0, none⟩ ∧ (D ≠ [] → bal = 0) ∧ base ≤ b) ?_ ⟨rfl, rfl, rfl, _, [], [], rb, rbal, rl, re, rr, hw, rfl, rfl, rfl, rfl, fun h => absurd rfl h, hroot⟩
    rintro im en dm p s hp wd ⟨rfl, rfl, rfl, hex⟩
    obtain ⟨U, D, b, bal, l, e0, r, hW, hm, rfl, rfl, rfl, hc0, hbb⟩ := mn_spec hex
    have hwd := (trm_plug ..).1 hW.tr
    obtain ⟨hPd, hbd, hld, hrd⟩ := hwd
    unfold F60_L1
    simp only [NN_mk]
    refine load_any (i := 3) hbd rfl ?_
    refine cmpE fun we fe => ?_
    have hWe := hW.fr0 fe
    refine F71_call (F71_spec (back_int ?_))
    have hagain : ∀ (U' D' : List Fm) (b' : Nat) (bal' : Int) (l' : Tr) (e' : It2) (r' : Tr) (w' : World), Way w base ib db num (.nd rb rbal rl re rr) e U' D' (.nd b' bal' l' e' r') w' → (Tr.nd b' bal' l' e' r').bs.length < (Tr.nd b bal l e0 r).bs.length → (D' ≠ [] → bal' = 0) → base ≤ b' →
        (fun im en dm p s hp w' => (im = some ⟨ib, 0, none⟩ ∧ en = encE e ∧ dm = ⟨db, 0, none⟩ ∧ ∃ m U D b bal l e0 r, Way w base ib db num (.nd rb rbal rl re rr) e U D (.nd b bal l e0 r) w' ∧ (Tr.nd b bal l e0 r).bs.length = m ∧ p = some ⟨b, 0, none⟩ ∧ s = hd D (some ⟨b, 0, none⟩) ∧ hp = some ⟨hlp U db, 0, none⟩ ∧ (D ≠ [] → bal = 0) ∧ base ≤ b) ∧
          (mn fun m => ∃ U D b bal l e0 r, Way w base ib db num (.nd rb rbal rl re rr) e U D (.nd b bal l e0 r) w' ∧ (Tr.nd b bal l e0 r).bs.length = m ∧ p = some ⟨b, 0, none⟩ ∧ s = hd D (some ⟨b, 0, none⟩) ∧ hp = some ⟨hlp U db, 0, none⟩ ∧ (D ≠ [] → bal = 0) ∧ base ≤ b) < (mn fun m => ∃ U'' D'' b'' bal'' l'' e0'' r'', Way w base ib db num (.nd rb rbal rl re rr) e U'' D'' (.nd b'' bal'' l'' e0'' r'') wd ∧ (Tr.nd b'' bal'' l'' e0'' r'').bs.length = m ∧ (some (⟨b, 0, none⟩ : Addr)) = some ⟨b'', 0, none⟩ ∧ hd D (some (⟨b, 0, none⟩ : Addr)) = hd D'' (some ⟨b'', 0, none⟩) ∧ (some (⟨hlp U db, 0, none⟩ : Addr)) = some ⟨hlp U'' db, 0, none⟩ ∧ (D'' ≠ [] → bal'' = 0) ∧ base ≤ b''))
          (some (⟨ib, 0, none⟩ : Addr)) (encE e) (⟨db, 0, none⟩ : Addr) (some (⟨b', 0, none⟩ : Addr)) (hd D' (some ⟨b', 0, none⟩)) (some (⟨hlp U' db, 0, none⟩ : Addr)) w' := by
      intro U' D' b' bal' l' e' r' w' h1 h2 h3 h4
      refine ⟨⟨rfl, rfl, rfl, _, U', D', b', bal', l', e', r', h1, rfl, rfl, rfl, rfl, h3, h4⟩, ?_⟩
      rw [← hm]
      exact mn_lt (m := (Tr.nd b' bal' l' e' r').bs.length) ⟨U', D', b', bal', l', e', r', h1, rfl, rfl, rfl, rfl, h3, h4⟩ h2
    have hJ2 : ∀ (d : Bool) (o : Tr) w', Way w base ib db num (.nd rb rbal rl re rr) e U (D ++ [⟨b, bal, d, e0, o⟩]) nil w' → F60_J2 k (some ⟨ib, 0, none⟩) (encE e) ⟨db, 0, none⟩ (some ⟨b, 0, none⟩) (hd (D ++ [⟨b, bal, d, e0, o⟩]) none) (dI d) (some ⟨hlp U db, 0, none⟩) w' := fun d o w' hW' =>
      ins_J2 (f := ⟨b, bal, d, e0, o⟩) hW' hnum hT.num hT.srt fun t' w'' a1 a2 a4 a3 => hk t' none (num + 1) w'' a1 a2 rfl a4 a3
    rcases Int.lt_trichotomy (kx e0) (kx e) with hlt | heq | hgt
    · have hc : cmpI (kx e0) (kx e) = -1 := by unfold cmpI; rw [if_pos hlt]
      rw [hc, if_pos hlt]
      simp only [show decide ((-1 : Int) > 0) = false from rfl, show decide ((-1 : Int) < 0) = true from rfl, BIf_true, BIf_false, NN_mk]
      refine ⟨by decide, ?_⟩
      refine stepD (d := true) (ch := r) (o := l) hWe hT.srt hbb hc0 (fun _ => hlt) (fun h => by cases h) ?_ (hJ2 true l)
      exact hagain
    · have hc : cmpI (kx e0) (kx e) = 0 := by unfold cmpI; rw [if_neg (by omega), if_neg (by omega)]
      rw [hc]
      simp only [show decide ((0 : Int) > 0) = false from rfl, show decide ((0 : Int) < 0) = false from rfl, BIf_false, NN_mk]
      have hwe := (trm_plug ..).1 hWe.tr
      obtain ⟨hPe, hbe, hle, hre⟩ := hwe
      refine load_any (i := 3) hbe rfl ⟨rfl, ?_⟩
      refine store_intro (i := 3) hbe (by simp [ncell]) rfl fun wf bf ff zf => ?_
      obtain ⟨hib1, hib2⟩ := hWe.ibn
      have hn0 : ∀ a ∈ pbs (U ++ D), ¬ a = b := fun a ha e' => (List.nodup_append.1 hWe.nd).2.2 a ha b (by simp [Tr.bs]) e'
      have hn1 := (List.nodup_append.1 hWe.nd).2.1
      simp only [Tr.bs, List.nodup_cons, List.mem_append, not_or] at hn1
      have hav : (plug (U ++ D) (.nd b bal l e r)).AVL := by
        have h1 : (Tr.nd b bal l e0 r).AVL := plug_sub (U ++ D) hWe.avl
        have h2 : (Tr.nd b bal l e r).AVL := h1
        exact (plug_avl (U ++ D) (t' := .nd b bal l e r) hWe.avl h2 rfl).1
      have hlist : (plug (U ++ D) (.nd b bal l e r)).list = inL (U ++ D) ++ l.list ++ e :: (r.list ++ inR (U ++ D)) := by rw [plug_list]; simp [Tr.list]
      have hold : (Tr.nd rb rbal rl re rr).list = inL (U ++ D) ++ l.list ++ e0 :: (r.list ++ inR (U ++ D)) := by rw [← hWe.list, plug_list]; simp [Tr.list]
      have hI : InsL (Tr.nd rb rbal rl re rr).list e (plug (U ++ D) (.nd b bal l e r)).list (some e0) := by rw [hlist]; exact .old hold heq
      have hptr : (plug (U ++ D) (.nd b bal l e r)).ptr = (Tr.nd rb rbal rl re rr).ptr := by
        rw [plug_ptr]; exact hWe.rp
      refine hk (plug (U ++ D) (.nd b bal l e r)) (some e0) num wf ⟨?_, ?_, hav, hI.srt hT.srt, nodup_of hWe.nd fun a => by rw [cnt_plug]; simp [Tr.bs], ?_, ?_, hibb⟩ hI (by simp) (fun a ha => hWe.sub a (by
        rw [← List.count_pos_iff] at ha ⊢
        rw [cnt_plug] at ha
        exact ha)) (hWe.fr.trans ff fun a e' => .inl (by have : a = b := e'; omega))
      · rw [hptr]; exact Blk.fr hWe.im ff fun e' => hib2 (List.mem_append_right _ (by have : ib = b := e'; simp [Tr.bs, this]))
      · rw [trm_plug]
        exact ⟨PM.fr ff hPe hn0, bf, hle.fr ff fun a ha e' => hn1.1.1 (by have : a = b := e'; exact this ▸ ha), hre.fr ff fun a ha e' => hn1.1.2 (by have : a = b := e'; exact this ▸ ha)⟩
      · rw [(hI.look hT.srt).2.2, hT.num]; simp
      · rw [hptr]; exact hT.root
    · have hc : cmpI (kx e0) (kx e) = 1 := by unfold cmpI; rw [if_neg (by omega), if_pos hgt]
      rw [hc, if_neg (by omega), if_pos hgt]
      simp only [show decide ((1 : Int) > 0) = true from rfl, BIf_true, BIf_false, NN_mk]
      refine ⟨by decide, ?_⟩
      refine stepD (d := false) (ch := l) (o := r) hWe hT.srt hbb hc0 (fun h => by cases h) (fun _ => hgt) ?_ (hJ2 false r)
      exact hagain
end
end Go.Proofs.Ytokejbejoegnnaa.E
