/-
  A deletion, walked: the way up, where balances are set right.
-/
import Derived.Test.YtokejbejoegnnaaAvU
namespace Go.Proofs.Ytokejbejoegnnaa.E
open Go Tr
set_option linter.unusedSimpArgs false
set_option linter.unusedVariables false
set_option maxRecDepth 100000
set_option maxHeartbeats 4000000

/-- The stack's nodes, and the stack's directions. -/
def Cac (w : World) (cb : Nat) (P : List Fm) : Prop := ∃ vs : List Value, Blk w cb 115 vs ∧ vs.length = 64 ∧ ∀ (i : Nat) (f : Fm), P[i]? = some f → vs[i]? = some (.pointer (some ⟨f.b, 0, none⟩))
def Dir (w : World) (dd : Nat) (P : List Fm) : Prop := ∃ vs : List Value, Blk w dd 3 vs ∧ vs.length = 64 ∧ ∀ (i : Nat) (f : Fm), P[i]? = some f → vs[i]? = some (.int .i64 (dI f.d))
section
variable {w : World} {cb dd : Nat} {P : List Fm} {S : Nat → Prop} {w' : World}
theorem Cac.fr (h : Cac w cb P) (f : Fr S w w') (hS : ¬ S cb) : Cac w' cb P := by
  obtain ⟨vs, h1, h2⟩ := h; exact ⟨vs, h1.fr f hS, h2⟩
theorem Dir.fr (h : Dir w dd P) (f : Fr S w w') (hS : ¬ S dd) : Dir w' dd P := by
  obtain ⟨vs, h1, h2⟩ := h; exact ⟨vs, h1.fr f hS, h2⟩
theorem Cac.cell (h : Cac w cb P) {i : Nat} {f : Fm} (hi : P[i]? = some f) : w.cell? ((⟨cb, 0, none⟩ : Addr).add i) = some (.pointer (some ⟨f.b, 0, none⟩)) := by
  obtain ⟨vs, h1, h2, h3⟩ := h
  rw [add_mk, Nat.zero_add, h1.cell]; exact h3 i f hi
theorem Dir.cell (h : Dir w dd P) {i : Nat} {f : Fm} (hi : P[i]? = some f) : w.cell? ((⟨dd, 0, none⟩ : Addr).add i) = some (.int .i64 (dI f.d)) := by
  obtain ⟨vs, h1, h2, h3⟩ := h
  rw [add_mk, Nat.zero_add, h1.cell]; exact h3 i f hi
theorem Cac.load {K : Option Addr → W} (h : Cac w cb P) {i : Nat} {f : Fm} (hi : P[i]? = some f) (hk : K (some ⟨f.b, 0, none⟩) w) : LoadT .ptr ((⟨cb, 0, none⟩ : Addr).add i) K w := LoadT_ptr.2 ⟨_, h.cell hi, hk⟩
theorem Dir.load {K : Int → W} (h : Dir w dd P) {i : Nat} {f : Fm} (hi : P[i]? = some f) (hk : K (dI f.d) w) : LoadT (.int .i64) ((⟨dd, 0, none⟩ : Addr).add i) K w := LoadT_int.2 ⟨_, h.cell hi, hk⟩
theorem Cac.put {K : W} {n : Nat} {x : Option Addr} (h : Cac w cb P) (P' : List Fm) (hn : n < 64) (hP : ∀ (i : Nat) (f : Fm), P'[i]? = some f → (i = n ∧ x = some ⟨f.b, 0, none⟩) ∨ (i ≠ n ∧ ∃ g, P[i]? = some g ∧ g.b = f.b)) (hk : ∀ w', Cac w' cb P' → w'.cell? ((⟨cb, 0, none⟩ : Addr).add n) = some (.pointer x) → Fr (fun b => b = cb) w w' → w'.heap.size = w.heap.size → K w') : Store1 ((⟨cb, 0, none⟩ : Addr).add n) (.pointer x) K w := by
  obtain ⟨vs, h1, h2, h3⟩ := h
  rw [add_mk, Nat.zero_add] at *
  refine store_intro h1 (by omega) rfl fun w1 b1 f1 z1 => hk w1 ⟨_, b1, by simpa using h2, fun i f hi => ?_⟩ ?_ f1 z1
  · rcases hP i f hi with ⟨rfl, rfl⟩ | ⟨hne, g, hg, hb⟩
    · rw [List.getElem?_set_self (by omega)]
    · rw [List.getElem?_set_ne (fun h => hne h.symm), h3 i g hg, hb]
  · rw [b1.cell, List.getElem?_set_self (by omega)]
theorem Dir.put {K : W} {n : Nat} {x : Int} (h : Dir w dd P) (P' : List Fm) (hn : n < 64) (hP : ∀ (i : Nat) (f : Fm), P'[i]? = some f → (i = n ∧ x = dI f.d) ∨ (i ≠ n ∧ ∃ g, P[i]? = some g ∧ g.d = f.d)) (hk : ∀ w', Dir w' dd P' → Fr (fun b => b = dd) w w' → w'.heap.size = w.heap.size → K w') : Store1 ((⟨dd, 0, none⟩ : Addr).add n) (.int .i64 x) K w := by
  obtain ⟨vs, h1, h2, h3⟩ := h
  rw [add_mk, Nat.zero_add] at *
  refine store_intro h1 (by omega) rfl fun w1 b1 f1 z1 => hk w1 ⟨_, b1, by simpa using h2, fun i f hi => ?_⟩ f1 z1
  rcases hP i f hi with ⟨rfl, rfl⟩ | ⟨hne, g, hg, hb⟩
  · rw [List.getElem?_set_self (by omega)]
  · rw [List.getElem?_set_ne (fun h => hne h.symm), h3 i g hg, hb]
theorem Cac.sub (h : Cac w cb P) {P' : List Fm} (hP : ∀ (i : Nat) (f : Fm), P'[i]? = some f → ∃ g, P[i]? = some g ∧ g.b = f.b) : Cac w cb P' := by
  obtain ⟨vs, h1, h2, h3⟩ := h
  exact ⟨vs, h1, h2, fun i f hi => by obtain ⟨g, hg, hb⟩ := hP i f hi; rw [h3 i g hg, hb]⟩
theorem Dir.sub (h : Dir w dd P) {P' : List Fm} (hP : ∀ (i : Nat) (f : Fm), P'[i]? = some f → ∃ g, P[i]? = some g ∧ g.d = f.d) : Dir w dd P' := by
  obtain ⟨vs, h1, h2, h3⟩ := h
  exact ⟨vs, h1, h2, fun i f hi => by obtain ⟨g, hg, hb⟩ := hP i f hi; rw [h3 i g hg, hb]⟩
end
theorem get_left {P Q : List Fm} {i : Nat} {f : Fm} (h : P[i]? = some f) : (P ++ Q)[i]? = some f := by
  rw [List.getElem?_append_left (List.getElem?_eq_some_iff.1 h).1]; exact h
theorem get_last (P : List Fm) (f : Fm) : (P ++ [f])[P.length]? = some f := by simp
/-- A frame at the end of the stack. -/
theorem snoc_put {P : List Fm} {f : Fm} (i : Nat) (g : Fm) (h : (P ++ [f])[i]? = some g) : (i = P.length ∧ g = f) ∨ (i ≠ P.length ∧ P[i]? = some g) := by
  rcases Nat.lt_trichotomy i P.length with hl | hl | hl
  · rw [List.getElem?_append_left hl] at h; exact .inr ⟨by omega, h⟩
  · subst hl; simp at h; exact .inl ⟨rfl, h.symm⟩
  · rw [List.getElem?_eq_none (by simp; omega)] at h; cases h
theorem pm_blk {w : World} : ∀ {R : List Fm} {p : Option Addr}, PM w R p → ∀ b ∈ pbs R, ∃ us, Blk w b 119 us
  | [], _, _, b, h => by cases h
  | f :: R, p, ⟨h1, h2, h3⟩, b, h => by
    simp only [pbs, List.mem_cons, List.mem_append] at h
    rcases h with rfl | h | h
    · exact ⟨_, h1⟩
    · exact blk_of h2 h
    · exact pm_blk h3 b h
/-- The last one of a path has another child. -/
theorem link_up {w : World} {Q : List Fm} {g : Fm} {p0 p : Option Addr} {K : W} (h : PM w (Q ++ [g]) p0) (hnd : (pbs (Q ++ [g])).Nodup) (hk : ∀ w', PM w' (Q ++ [g]) p → Fr (fun b => b = g.b) w w' → w'.heap.size = w.heap.size → K w') : Store1 ⟨g.b, 1 + sd g.d, none⟩ (.pointer p) K w := by
  rw [pm_append] at h
  obtain ⟨h1, h2, h3, _⟩ := h
  rw [pbs_append] at hnd
  obtain ⟨n1, n2, n3⟩ := List.nodup_append.1 hnd
  refine store_intro h2 (by rw [ncl_len]; exact sd_lt g.d) rfl fun w1 b1 f1 z1 => hk w1 ?_ f1 z1
  simp only [hd] at b1
  rw [ncl_set_c] at b1
  rw [pm_append]
  refine ⟨PM.fr f1 h1 fun b hb h => ?_, b1, h3.fr f1 fun b hb h => ?_, trivial⟩
  · have h : b = g.b := h
    exact n3 b hb g.b (by simp [pbs]) h
  · have h : b = g.b := h
    simp only [pbs, List.append_nil, List.nodup_cons] at n2
    exact n2.1 (h ▸ hb)
theorem nd'_flip (d : Bool) (b : Nat) (bal : Int) (e : It2) (c o : Tr) : nd' d b bal e c o = nd' (!d) b bal e o c := by cases d <;> rfl
theorem lst_flip (d : Bool) (c : List It2) (e : It2) (o : List It2) : lst (!d) o e c = lst d c e o := by cases d <;> rfl
theorem sub_one {n : Nat} (h : n < 100000) : subI .i64 ((n + 1 : Nat) : Int) 1 = (n : Nat) := by
  rw [subI_i64 (by omega) (by omega)]; omega

/-- A tree that has become lower by one at the place x. -/
structure Gng (w0 : World) (ib num : Nat) (T : List Nat) (L : List It2) (P : List Fm) (x : Tr) (w : World) : Prop where
  im : ImM w ib (hd P x.ptr) num
  pm : PM w P x.ptr
  tr : TrM w x
  nd : (pbs P ++ x.bs).Nodup
  bk : ∀ b ∈ pbs P ++ x.bs, b ∈ T ∨ w0.heap.size ≤ b
  li : (plug P x).list = L
  av : ∃ y, (plug P y).AVL ∧ x.AVL ∧ x.h + 1 = y.h
  fr : Fr (fun b => b = ib ∨ b ∈ T) w0 w
def Dne (w0 : World) (ib num : Nat) (T : List Nat) (L : List It2) (w : World) : Prop :=
  ∃ t', ImM w ib t'.ptr num ∧ TrM w t' ∧ t'.AVL ∧ t'.list = L ∧ t'.bs.Nodup ∧ (∀ b ∈ t'.bs, b ∈ T ∨ w0.heap.size ≤ b) ∧ Fr (fun b => b = ib ∨ b ∈ T) w0 w
theorem dne_plug {w0 w : World} {ib num : Nat} {T : List Nat} {L : List It2} {P : List Fm} {R : Tr} (him : ImM w ib (hd P R.ptr) num) (hpm : PM w P R.ptr) (htr : TrM w R) (hnd : (pbs P ++ R.bs).Nodup) (hbk : ∀ b ∈ pbs P ++ R.bs, b ∈ T ∨ w0.heap.size ≤ b) (hli : (plug P R).list = L) (hav : (plug P R).AVL) (hfr : Fr (fun b => b = ib ∨ b ∈ T) w0 w) : Dne w0 ib num T L w := by
  refine ⟨plug P R, by rw [plug_ptr]; exact him, (trm_plug ..).2 ⟨hpm, htr⟩, hav, hli, nodup_of hnd fun a => cnt_plug P R a, fun b hb => hbk b ?_, hfr⟩
  rw [← List.count_pos_iff] at hb ⊢
  rwa [← cnt_plug]
theorem get_back {P : List Fm} {f : Fm} {n : Nat} {K : Option Addr → W} {w : World} {cb : Nat} (h : w.cell? ((⟨cb, 0, none⟩ : Addr).add n) = some (.pointer (some ⟨f.b, 0, none⟩))) (hk : K (some ⟨f.b, 0, none⟩) w) : LoadT .ptr ((⟨cb, 0, none⟩ : Addr).add n) K w := LoadT_ptr.2 ⟨_, h, hk⟩

section
variable {k : Value → W} {w0 : World} {ib num : Nat} {T : List Nat} {L : List It2} {cb dd nb : Nat} {old : Value}
theorem del_up {w : World} {P : List Fm} {x : Tr} {cc dc : Nat} (hG : Gng w0 ib num T L P x w) (hC : Cac w cb P) (hD : Dir w dd P) (hN : Blk w nb 3 [.int .i64 0]) (hne : dd ≠ nb) (hib : ib < w0.heap.size) (hcb : w0.heap.size ≤ cb) (hdd : w0.heap.size ≤ dd) (hnb : w0.heap.size ≤ nb) (hl : P.length ≤ 64)
    (hk : ∀ w', Dne w0 ib num T L w' → k old w') : F61_J2 k (some ⟨ib, 0, none⟩) (some ⟨cb, 0, none⟩) 64 cc (P.length : Nat) ⟨nb, 0, none⟩ (some ⟨dd, 0, none⟩) 64 dc old w := by
  unfold F61_J2
  refine F61_L3_rule (fun im cp cl cc top dn dp dl dc od w' => im = some ⟨ib, 0, none⟩ ∧ cp = some ⟨cb, 0, none⟩ ∧ cl = 64 ∧ dn = ⟨nb, 0, none⟩ ∧ dp = some ⟨dd, 0, none⟩ ∧ dl = 64 ∧ od = old ∧ ∃ P x, top = (P.length : Nat) ∧ P.length ≤ 64 ∧ Cac w' cb P ∧ Dir w' dd P ∧ ((Blk w' nb 3 [.int .i64 0] ∧ Gng w0 ib num T L P x w') ∨ (Blk w' nb 3 [.int .i64 1] ∧ Dne w0 ib num T L w')))
    (fun _ _ _ _ top _ _ _ _ _ _ => top.toNat) ?_ ⟨rfl, rfl, rfl, rfl, rfl, rfl, rfl, P, x, rfl, hl, hC, hD, .inl ⟨hN, hG⟩⟩
  rintro im cp cl cc top dn dp dl dc od w1 ⟨rfl, rfl, rfl, rfl, rfl, rfl, rfl, P, x, rfl, hl, hC, hD, hst⟩
  unfold F61_L3
  rcases List.eq_nil_or_concat P with e1 | ⟨P0, f, e1⟩
  · subst e1
    rw [show decide (subI .i64 ((([] : List Fm).length : Nat) : Int) 1 ≥ 0) = false from rfl]
    simp only [BIf_false]
    rcases hst with ⟨_, hG⟩ | ⟨_, hD⟩
    · obtain ⟨y, _, hx, _⟩ := hG.av
      exact hk w1 (dne_plug hG.im hG.pm hG.tr hG.nd hG.bk hG.li hx hG.fr)
    · exact hk w1 hD
  rw [List.concat_eq_append] at e1
  subst e1
  have hlen : (P0 ++ [f]).length = P0.length + 1 := by simp
  rw [hlen] at hl ⊢
  rw [sub_one (by omega), decide_eq_true (by omega)]
  simp only [BIf_true]
  rcases hst with ⟨hN, hG⟩ | ⟨hN, hDn⟩
  rotate_left
  · refine load_int (i := 0) hN rfl ?_
    simp only [show ((1 : Int) == 0) = false from rfl, BIf_false]
    exact hk w1 hDn
  refine load_int (i := 0) hN rfl ?_
  simp only [show ((0 : Int) == 0) = true from rfl, BIf_true, NN_mk, Int.toNat_natCast]
  refine ⟨by omega, hD.load (get_last P0 f) ?_⟩
  -- what is known of the last node
  obtain ⟨y, hav, hx, hxh⟩ := hG.av
  rw [plug_append] at hav
  simp only [plug] at hav
  have hsub := plug_sub P0 hav
  have hsub' := (avl_nd' ..).1 hsub
  obtain ⟨ay, ao, ab, ab1, ab2⟩ := hsub'
  have hpm := hG.pm
  rw [pm_append] at hpm
  obtain ⟨pm0, hf, hfo, _⟩ := hpm
  simp only [hd] at hf pm0
  have hnd := hG.nd
  have hcnt : ∀ a, (pbs (P0 ++ [f]) ++ x.bs).count a = (pbs P0 ++ (f.b :: (f.o.bs ++ x.bs))).count a := fun a => by
    rw [pbs_append]; simp only [pbs, List.append_nil, List.count_append, List.count_cons]; omega
  have hnd2 : (pbs P0 ++ (f.b :: (f.o.bs ++ x.bs))).Nodup := nodup_of hnd fun a => (hcnt a).symm
  obtain ⟨m1, m2, m3⟩ := List.nodup_append.1 hnd2
  have hmem : ∀ b, b ∈ pbs (P0 ++ [f]) ++ x.bs ↔ b ∈ pbs P0 ∨ b = f.b ∨ b ∈ f.o.bs ∨ b ∈ x.bs := fun b => by
    rw [pbs_append]; simp only [pbs, List.append_nil, List.mem_append, List.mem_cons, or_assoc]
  have hfb := hG.bk f.b ((hmem _).2 (.inr (.inl rfl)))
  simp only [List.nodup_cons, List.mem_append, not_or] at m2
  have him : ImM w1 ib (hd P0 (some ⟨f.b, 0, none⟩)) num := by have := hG.im; rw [hd_append] at this; exact this
  have tyne : ∀ {w' : World} {b t t' us us'}, Blk w' b t us → Blk w' b t' us' → t ≠ t' → False := fun h h' hn => hn (h.unique h').1
  have hCb : cb ≠ f.b := fun h => by obtain ⟨vs, hc, _⟩ := hC; rw [h] at hc; exact tyne hc hf (by decide)
  have hDb : dd ≠ f.b := fun h => by obtain ⟨vs, hc, _⟩ := hD; rw [h] at hc; exact tyne hc hf (by decide)
  have hNb : nb ≠ f.b := fun h => by rw [h] at hN; exact tyne hN hf (by decide)
  have hIb : ib ≠ f.b := fun h => by rw [h] at him; exact tyne him hf (by decide)
  have hlist : lst f.d x.list f.e f.o.list = (nd' f.d f.b f.bal f.e x f.o).list := (list_nd' ..).symm
  have hli : ∀ (R : Tr), R.list = lst f.d x.list f.e f.o.list → (plug P0 R).list = L := fun R hR => by
    have := hG.li
    rw [plug_append] at this
    simp only [plug] at this
    rw [plug_list] at this ⊢
    rw [hR, ← list_nd' f.d f.b f.bal]; exact this
  have C0 : Cac w1 cb P0 := hC.sub fun i g hg => ⟨g, get_left hg, rfl⟩
  have D0 : Dir w1 dd P0 := hD.sub fun i g hg => ⟨g, get_left hg, rfl⟩
  have go : ∀ v : Int, v = f.bal - sg f.d → (Store1 ⟨f.b, 0, none⟩ (.int .i8 v) <| F61_J3 k (fun im' cp' cl' cc' top' dn' dp' dl' dc' od' w' => (im' = some ⟨ib, 0, none⟩ ∧ cp' = some ⟨cb, 0, none⟩ ∧ cl' = 64 ∧ dn' = ⟨nb, 0, none⟩ ∧ dp' = some ⟨dd, 0, none⟩ ∧ dl' = 64 ∧ od' = od ∧ ∃ P x, top' = (P.length : Nat) ∧ P.length ≤ 64 ∧ Cac w' cb P ∧ Dir w' dd P ∧ ((Blk w' nb 3 [.int .i64 0] ∧ Gng w0 ib num T L P x w') ∨ (Blk w' nb 3 [.int .i64 1] ∧ Dne w0 ib num T L w'))) ∧ top'.toNat < (((P0.length + 1 : Nat) : Int)).toNat) (some ⟨ib, 0, none⟩) (some ⟨cb, 0, none⟩) 64 cc (P0.length : Nat) ⟨nb, 0, none⟩ (some ⟨dd, 0, none⟩) 64 dc od) w1 := by
    intro v hv
    refine store_intro hf (by rw [ncl_len]; decide) rfl fun w2 b2 f2 z2 => ?_
    rw [ncl_set_bal] at b2
    have x2 : TrM w2 x := hG.tr.fr f2 fun b hb h => m2.1.2 (by have : b = f.b := h; exact this ▸ hb)
    have o2 : TrM w2 f.o := hfo.fr f2 fun b hb h => m2.1.1 (by have : b = f.b := h; exact this ▸ hb)
    have p2 : PM w2 P0 (some ⟨f.b, 0, none⟩) := PM.fr f2 pm0 fun b hb h => m3 b hb f.b (by simp) h
    have i2 := Blk.fr him f2 hIb
    have C2 := hC.fr f2 hCb
    have D2 := hD.fr f2 hDb
    have N2 := hN.fr f2 hNb
    have hM2 : TrM w2 (nd' f.d f.b v f.e x f.o) := (trm_nd' ..).2 ⟨b2, x2, o2⟩
    have fr2 : Fr (fun b => b = ib ∨ b ∈ T) w0 w2 := hG.fr.trans f2 fun b h => by
      have h : b = f.b := h
      subst h
      exact hfb.imp .inr id
    have hv2 : -2 ≤ v ∧ v ≤ 2 := by rcases sg_cases f.d with g | g <;> omega
    have hndn : (pbs P0 ++ (nd' f.d f.b v f.e x f.o).bs).Nodup := nodup_of hnd2 fun a => by
      simp only [List.count_append, cnt_nd', List.count_cons]; omega
    have hbkn : ∀ b ∈ pbs P0 ++ (nd' f.d f.b v f.e x f.o).bs, b ∈ T ∨ w0.heap.size ≤ b := fun b hb => by
      refine hG.bk b ((hmem b).2 ?_)
      rcases List.mem_append.1 hb with h | h
      · exact .inl h
      · rw [(bs_nd' ..).mem_iff] at h
        simp only [List.mem_cons, List.mem_append] at h
        rcases h with h | h | h
        · exact .inr (.inl h)
        · exact .inr (.inr (.inr h))
        · exact .inr (.inr (.inl h))
    unfold F61_J3
    try simp only [NN_mk, Int.toNat_natCast]
    refine ⟨by omega, C2.load (get_last P0 f) ?_⟩
    try simp only [NN_mk]
    refine load_int b2 (ncl_bal ..) ?_
    refine conv_abs hv2 (abs_eq hv2 ?_)
    by_cases h1 : v = 1 ∨ v = -1
    · rw [decide_eq_true h1]
      simp only [BIf_true]
      have hb0 : f.bal = 0 := by rcases sg_cases f.d with g | g <;> omega
      refine hk w2 (dne_plug (P := P0) (R := nd' f.d f.b v f.e x f.o) (by rw [ptr_nd']; exact i2) (by rw [ptr_nd']; exact p2) hM2 hndn hbkn (hli _ (list_nd' ..)) ?_ fr2)
      refine (plug_avl P0 hav ?_ ?_).1
      · rw [avl_nd']
        rw [hb0] at ab
        refine ⟨hx, ao, ?_, by omega, by omega⟩
        rcases sg_cases f.d with g | g <;> rw [g] at ab hv ⊢ <;> omega
      · rw [h_nd', h_nd']
        rw [hb0] at ab
        rcases sg_cases f.d with g | g <;> rw [g] at ab <;> omega
    rw [decide_eq_false h1]
    simp only [BIf_false, NN_mk, Int.toNat_natCast]
    refine ⟨by omega, C2.load (get_last P0 f) ?_⟩
    try simp only [NN_mk]
    refine load_int b2 (ncl_bal ..) ?_
    refine conv_abs hv2 (abs_gt hv2 ?_)
    by_cases h2 : v = 2 ∨ v = -2
    rotate_left
    · rw [decide_eq_false h2]
      simp only [BIf_false]
      have hb0 : f.bal = sg f.d := by rcases sg_cases f.d with g | g <;> omega
      have hv0 : v = 0 := by omega
      subst hv0
      refine ⟨⟨(by trivial), (by trivial), (by trivial), (by trivial), (by trivial), (by trivial), (by trivial), P0, nd' f.d f.b 0 f.e x f.o, rfl, by omega, C0.fr f2 hCb, D0.fr f2 hDb, .inl ⟨N2, ⟨by rw [ptr_nd']; exact i2, by rw [ptr_nd']; exact p2, hM2, hndn, hbkn, hli _ (list_nd' ..), ⟨_, hav, ?_, ?_⟩, fr2⟩⟩⟩, by omega⟩
      · rw [avl_nd']
        rw [hb0] at ab
        refine ⟨hx, ao, ?_, by omega, by omega⟩
        rcases sg_cases f.d with g | g <;> rw [g] at ab ⊢ <;> omega
      · rw [h_nd', h_nd']
        rw [hb0] at ab
        rcases sg_cases f.d with g | g <;> rw [g] at ab <;> omega
    rw [decide_eq_true h2]
    simp only [BIf_true]
    have hb0 : f.bal = - sg f.d := by rcases sg_cases f.d with g | g <;> omega
    have hoh : f.o.h = x.h + 2 := by
      rw [hb0] at ab
      rcases sg_cases f.d with g | g <;> rw [g] at ab <;> omega
    refine drw_intro fun w3 f3 z3 => ?_
    have C3 := C2.fr f3 id
    have D3 := D2.fr f3 id
    have N3 := N2.fr f3 id
    have M3 : TrM w3 (nd' (!f.d) f.b v f.e f.o x) := by rw [← nd'_flip]; exact hM2.fr0 f3
    have i3 := Blk.fr i2 f3 id
    have p3 := PM.fr f3 p2 fun _ _ h => h
    try simp only [NN_mk, Int.toNat_natCast]
    refine ⟨by omega, C3.load (get_last P0 f) ?_⟩
    refine ⟨by omega, D3.load (get_last P0 f) ?_⟩
    have hndx : (f.b :: (f.o.bs ++ x.bs)).Nodup := by
      simp only [List.nodup_cons, List.mem_append, not_or]; exact m2
    have hnot : ∀ b, b = f.b ∨ b ∈ f.o.bs ∨ b = nb → ∃ us t, Blk w3 b t us ∧ (t = 119 ∨ b = nb) := fun b hb => by
      rcases hb with h | h | h
      · rw [h]; exact ⟨_, _, b2.fr f3 id, .inl rfl⟩
      · obtain ⟨us, hu⟩ := blk_of (o2.fr0 f3) h; exact ⟨_, _, hu, .inl rfl⟩
      · rw [h]; exact ⟨_, _, N3, .inr rfl⟩
    have e0 : dI f.d = dI (!(!f.d)) := by rw [Bool.not_not]
    rw [e0]
    have hnbT : nb ∉ T → True := fun _ => trivial
    refine F75_call (F75_spec M3 hndx ao hx hoh N3 fun R vv w4 rA rH rL rM rN rB N4 f4 => back_ptr ?_)
    have hCn : ¬ (cb = f.b ∨ cb ∈ f.o.bs ∨ cb = nb) := by
      rintro (h | h | h)
      · exact hCb h
      · obtain ⟨us, hu⟩ := blk_of (o2.fr0 f3) h
        obtain ⟨vs, hc, _⟩ := C3
        exact tyne hc hu (by decide)
      · obtain ⟨vs, hc, _⟩ := C3
        rw [h] at hc; exact tyne hc N3 (by decide)
    have hDn : ¬ (dd = f.b ∨ dd ∈ f.o.bs ∨ dd = nb) := by
      rintro (h | h | h)
      · exact hDb h
      · obtain ⟨us, hu⟩ := blk_of (o2.fr0 f3) h
        obtain ⟨vs, hc, _⟩ := D3
        exact tyne hc hu (by decide)
      · exact hne h
    have hIn : ¬ (ib = f.b ∨ ib ∈ f.o.bs ∨ ib = nb) := by
      rintro (h | h | h)
      · exact hIb h
      · obtain ⟨us, hu⟩ := blk_of (o2.fr0 f3) h
        exact tyne i3 hu (by decide)
      · omega
    have C4 := C3.fr f4 hCn
    have D4 := D3.fr f4 hDn
    have i4 := Blk.fr i3 f4 hIn
    have p4 : PM w4 P0 (some ⟨f.b, 0, none⟩) := PM.fr f4 p3 fun b hb h => by
      rcases h with h | h | h
      · exact m3 b hb f.b (by simp) h
      · exact m3 b hb b (by simp [h]) rfl
      · obtain ⟨us, hu⟩ := pm_blk p3 b hb
        rw [h] at hu; exact tyne N3 hu (by decide)
    have fr4 : Fr (fun b => b = ib ∨ b ∈ T) w0 w4 := (fr2.trans f3 fun _ h => h.elim).trans f4 fun b h => by
      rcases h with h | h | h
      · rw [h]; exact hfb.imp .inr id
      · exact (hG.bk b ((hmem b).2 (.inr (.inr (.inl h))))).imp .inr id
      · rw [h]; exact .inr hnb
    have hw3 : w0.heap.size ≤ w3.heap.size := by have := fr2.size; omega
    have hbkR : ∀ b ∈ pbs P0 ++ R.bs, b ∈ T ∨ w0.heap.size ≤ b := fun b hb => by
      rcases List.mem_append.1 hb with h | h
      · exact hG.bk b ((hmem b).2 (.inl h))
      · rcases rB b h with h | h | h | h
        · rw [h]; exact hfb
        · exact hG.bk b ((hmem b).2 (.inr (.inr (.inl h))))
        · exact hG.bk b ((hmem b).2 (.inr (.inr (.inr h))))
        · exact .inr (by omega)
    have hndR : (pbs P0 ++ R.bs).Nodup := by
      refine List.nodup_append.2 ⟨m1, rN, fun a ha b hb hab => ?_⟩
      subst hab
      rcases rB a hb with h | h | h | h
      · exact m3 a ha f.b (by simp) h
      · exact m3 a ha a (by simp [h]) rfl
      · exact m3 a ha a (by simp [h]) rfl
      · have := PM.lt p3 a ha; omega
    have hliR := hli R (by rw [rL, lst_flip])
    try simp only [NN_mk, Int.toNat_natCast]
    refine ⟨by omega, C4.put P0 (by omega) (fun i g hg => ?_) fun w5 C5 c5 f5 z5 => ?_⟩
    · have := (List.getElem?_eq_some_iff.1 hg).1
      exact .inr ⟨by omega, g, get_left hg, rfl⟩
    have D5 : Dir w5 dd P0 := (D4.fr f5 fun h => by
      have h : dd = cb := h
      obtain ⟨vs, hc, _⟩ := C4
      obtain ⟨vs', hd, _⟩ := D4
      rw [h] at hd; exact tyne hc hd (by decide)).sub fun i g hg => ⟨g, get_left hg, rfl⟩
    obtain ⟨vsC, hvC, _⟩ := C4
    have i5 := Blk.fr i4 f5 fun h => by
      have h : ib = cb := h
      rw [h] at i4; exact tyne i4 hvC (by decide)
    have N5 := N4.fr f5 fun h => by
      have h : nb = cb := h
      rw [h] at N4; exact tyne N4 hvC (by decide)
    have R5 : TrM w5 R := rM.fr f5 fun b hb h => by
      have h : b = cb := h
      obtain ⟨us, hu⟩ := blk_of rM hb
      rw [h] at hu; exact tyne hu hvC (by decide)
    have p5 : PM w5 P0 (some ⟨f.b, 0, none⟩) := PM.fr f5 p4 fun b hb h => by
      have h : b = cb := h
      obtain ⟨us, hu⟩ := pm_blk p4 b hb
      rw [h] at hu; exact tyne hu hvC (by decide)
    have fr5 : Fr (fun b => b = ib ∨ b ∈ T) w0 w5 := fr4.trans f5 fun b h => .inr (by have : b = cb := h; omega)
    -- the last step: linked
    have fin : ∀ w6, Cac w6 cb P0 → Dir w6 dd P0 → ImM w6 ib (hd P0 R.ptr) num → PM w6 P0 R.ptr → TrM w6 R → Blk w6 nb 3 [.int .i64 (if vv = true then 0 else 1)] → Fr (fun b => b = ib ∨ b ∈ T) w0 w6 → ((Blk w6 nb 3 [.int .i64 0] ∧ Gng w0 ib num T L P0 R w6) ∨ (Blk w6 nb 3 [.int .i64 1] ∧ Dne w0 ib num T L w6)) := by
      intro w6 C6 D6 i6 p6 R6 N6 fr6
      have hyh : (nd' f.d f.b f.bal f.e y f.o).h = f.o.h + 1 := by
        rw [h_nd']; omega
      cases vv with
      | true =>
        rw [if_pos rfl] at N6 rH
        exact .inl ⟨N6, ⟨i6, p6, R6, hndR, hbkR, hliR, ⟨_, hav, rA, by rw [rH, hyh]⟩, fr6⟩⟩
      | false =>
        rw [if_neg (by decide)] at N6 rH
        exact .inr ⟨N6, dne_plug i6 p6 R6 hndR hbkR hliR (plug_avl P0 hav rA (by rw [rH, hyh])).1 fr6⟩
    rcases List.eq_nil_or_concat P0 with e1 | ⟨Q, g, e1⟩
    · subst e1
      simp only [hd] at i5
      rw [show (((([] : List Fm).length : Nat) : Int) != 0) = false from rfl]
      simp only [BIf_false, NN_mk]
      refine ⟨by omega, LoadT_ptr.2 ⟨_, c5, ?_⟩⟩
      refine store_intro i5 (by simp) rfl fun w6 b6 f6 z6 => ?_
      have hI6 : ∀ {b t us}, Blk w5 b t us → t ≠ 121 → ¬ b = ib := fun hb ht h => by rw [h] at hb; exact tyne hb i5 ht
      obtain ⟨vs5, hv5, _⟩ := id C5
      obtain ⟨ds5, hd5, _⟩ := id D5
      refine ⟨⟨(by trivial), (by trivial), (by trivial), (by trivial), (by trivial), (by trivial), (by trivial), [], R, rfl, by simp, C5.fr f6 (hI6 hv5 (by decide)), D5.fr f6 (hI6 hd5 (by decide)), fin w6 (C5.fr f6 (hI6 hv5 (by decide))) (D5.fr f6 (hI6 hd5 (by decide))) b6 trivial (R5.fr f6 fun b hb => ?_) (N5.fr f6 (hI6 N5 (by decide))) (fr5.trans f6 fun b h => .inl (.inl h))⟩, by simp⟩
      obtain ⟨us, hu⟩ := blk_of R5 hb
      exact hI6 hu (by decide)
    · rw [List.concat_eq_append] at e1
      subst e1
      have hq : (Q ++ [g]).length = Q.length + 1 := by simp
      rw [hq] at hl c5 ⊢
      rw [show (((Q.length + 1 : Nat) : Int) != 0) = true by rw [bne_iff_ne]; omega]
      simp only [BIf_true]
      refine drw_intro fun w6 f6 z6 => ?_
      have C6 := C5.fr f6 id
      have D6 := D5.fr f6 id
      rw [sub_one (by omega)]
      try simp only [NN_mk, Int.toNat_natCast]
      refine ⟨by omega, C6.load (get_last Q g) ⟨by omega, D6.load (get_last Q g) ⟨by omega, LoadT_ptr.2 ⟨_, by rw [f6.cell (cell_lt c5) id]; exact c5, ?_⟩⟩⟩⟩
      try simp only [NN_mk]
      rw [adr]
      have p6 := PM.fr f6 p5 fun _ _ h => h
      have R6 := R5.fr0 f6
      have hgb : g.b ∈ pbs (Q ++ [g]) := mem_b (by simp)
      refine ⟨dI_ok g.d, link_up p6 m1 fun w7 p7 f7 z7 => ?_⟩
      obtain ⟨gu, hgu⟩ := pm_blk p6 g.b hgb
      have hG7 : ∀ {b t us}, Blk w6 b t us → t ≠ 119 → ¬ b = g.b := fun hb ht h => by rw [h] at hb; exact tyne hb hgu ht
      obtain ⟨vs5, hv5, _⟩ := id C6
      obtain ⟨ds5, hd5, _⟩ := id D6
      have i6 := Blk.fr i5 f6 id
      have C7 := C6.fr f7 (hG7 hv5 (by decide))
      have D7 := D6.fr f7 (hG7 hd5 (by decide))
      have i7 := Blk.fr i6 f7 (hG7 i6 (by decide))
      have hhd : hd (Q ++ [g]) (some (⟨f.b, 0, none⟩ : Addr)) = hd (Q ++ [g]) R.ptr := by rw [hd_append, hd_append]; rfl
      rw [hhd] at i7
      have fr7 : Fr (fun b => b = ib ∨ b ∈ T) w0 w7 := (fr5.trans f6 fun _ h => h.elim).trans f7 fun b h => by
        have h : b = g.b := h
        rw [h]
        exact (hbkR g.b (List.mem_append_left _ hgb)).imp .inr id
      refine ⟨⟨(by trivial), (by trivial), (by trivial), (by trivial), (by trivial), (by trivial), (by trivial), Q ++ [g], R, by rw [hq], by rw [hq]; omega, C7, D7, fin w7 C7 D7 i7 p7 (R6.fr f7 fun b hb h => ?_) ((N5.fr f6 id).fr f7 (hG7 (N5.fr f6 id) (by decide))) fr7⟩, by omega⟩
      have h : b = g.b := h
      exact (List.nodup_append.1 hndR).2.2 g.b hgb b hb h.symm
  cases hd' : f.d
  · rw [hd'] at go
    simp only [dI, cond_false, show ((0 : Int) != 0) = false from rfl, BIf_false, NN_mk, Int.toNat_natCast]
    refine ⟨by omega, hC.load (get_last P0 f) ?_⟩
    try simp only [NN_mk]
    refine load_int hf (ncl_bal ..) ?_
    have := go (addI .i8 f.bal 1) (by show IntKind.wrap .i8 (f.bal + 1) = f.bal - sg false; simp only [sg, cond_false]; rcases (show f.bal = -1 ∨ f.bal = 0 ∨ f.bal = 1 by omega) with h | h | h <;> rw [h] <;> rfl)
    exact this
  · rw [hd'] at go
    simp only [dI, cond_true, show ((1 : Int) != 0) = true from rfl, BIf_true, NN_mk, Int.toNat_natCast]
    refine ⟨by omega, hC.load (get_last P0 f) ?_⟩
    try simp only [NN_mk]
    refine load_int hf (ncl_bal ..) ?_
    have := go (subI .i8 f.bal 1) (by show IntKind.wrap .i8 (f.bal - 1) = f.bal - sg true; simp only [sg, cond_true]; rcases (show f.bal = -1 ∨ f.bal = 0 ∨ f.bal = 1 by omega) with h | h | h <;> rw [h] <;> rfl)
    exact this
end
end Go.Proofs.Ytokejbejoegnnaa.E
