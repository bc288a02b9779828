/-
  A deletion, walked: the node is cut out, its heir put into its place.
-/
import Derived.Test.YtokejbejoegnnaaAvV
namespace Go.Proofs.Ytokejbejoegnnaa.E
open Go Tr
set_option linter.unusedSimpArgs false
set_option linter.unusedVariables false
set_option maxRecDepth 100000
set_option maxHeartbeats 4000000

theorem F74_spec {k : Value → W} {w : World} {b : Bool} (hk : k (.int .i64 (dI b)) w) : F74 k b w := by
  unfold F74
  cases b
  · exact hk
  · exact hk
theorem hd_ne {R : List Fm} (h : R ≠ []) (p q : Option Addr) : hd R p = hd R q := by
  cases R with
  | nil => exact absurd rfl h
  | cons a R => rfl
theorem mid_get {R Z : List Fm} (f f' : Fm) {i : Nat} {g : Fm} (h : (R ++ f' :: Z)[i]? = some g) : (i = R.length ∧ g = f') ∨ (R ++ f :: Z)[i]? = some g := by
  rcases Nat.lt_trichotomy i R.length with hl | hl | hl
  · rw [List.getElem?_append_left hl] at h ⊢; exact .inr h
  · subst hl; simp at h; exact .inl ⟨rfl, h.symm⟩
  · obtain ⟨j, rfl⟩ := Nat.exists_eq_add_of_lt hl
    rw [List.getElem?_append_right (by omega)] at h ⊢
    rw [show R.length + j + 1 - R.length = j + 1 by omega] at h ⊢
    exact .inr h
theorem plug_len : ∀ (R : List Fm) (c : Tr), R.length + c.list.length ≤ (plug R c).list.length
  | [], c => by simp [plug]
  | f :: R, c => by
    have := plug_len R c
    simp only [plug, list_nd', List.length_cons]
    cases f.d <;> simp only [lst, cond_true, cond_false, List.length_append, List.length_cons] <;> omega
theorem inL_left {Z : List Fm} (h : ∀ g ∈ Z, g.d = false) : inL Z = [] := by
  induction Z with
  | nil => rfl
  | cons a Z ih => simp only [inL, h a (List.mem_cons_self ..), cond_false, List.nil_append]; exact ih fun g hg => h g (List.mem_cons_of_mem _ hg)

/-- The node n whose entry goes, its path over nodes that may be changed. -/
structure Cut (w0 : World) (ib num : Nat) (T : List Nat) (R : List Fm) (q : Option Addr) (n : Nat) (bal : Int) (l : Tr) (e : It2) (r : Tr) (w : World) : Prop where
  im : ImM w ib (hd R q) num
  pm : PM w R q
  nb : Blk w n 119 (ncell bal l.ptr r.ptr e)
  tl : TrM w l
  tr : TrM w r
  nd : (pbs R ++ (n :: (l.bs ++ r.bs))).Nodup
  bk : ∀ b ∈ pbs R ++ (n :: (l.bs ++ r.bs)), b ∈ T ∨ w0.heap.size ≤ b
  av : (plug R (.nd n bal l e r)).AVL
  fr : Fr (fun b => b = ib ∨ b ∈ T) w0 w
section
variable {k : Value → W} {w0 : World} {ib num : Nat} {T : List Nat} {cb dd nb : Nat} {old : Value} {R : List Fm} {q : Option Addr} {n : Nat} {bal : Int} {l r : Tr} {e : It2}
theorem tyne {w' : World} {b t t' : Nat} {us us' : List Value} (h : Blk w' b t us) (h' : Blk w' b t' us') (hn : t ≠ t') : False := hn (h.unique h').1
/-- One child is missing: the other one comes into the place. -/
theorem cut_one {w : World} {cc dc : Nat} (hC : Cut w0 ib num T R q n bal l e r w) (hlr : l = .nil ∨ r = .nil) (hCa : Cac w cb R) (hD : Dir w dd R) (hN : Blk w nb 3 [.int .i64 0]) (hne : dd ≠ nb) (hib : ib < w0.heap.size) (hcb : w0.heap.size ≤ cb) (hdd : w0.heap.size ≤ dd) (hnb : w0.heap.size ≤ nb) (hl : R.length ≤ 60)
    (hk : ∀ w', Dne w0 ib num T (inL R ++ (l.list ++ r.list) ++ inR R) w' → k old w') : F61_J1 k (some ⟨ib, 0, none⟩) (some ⟨cb, 0, none⟩) 64 cc (some ⟨n, 0, none⟩) (R.length : Nat) ⟨nb, 0, none⟩ (some ⟨dd, 0, none⟩) 64 dc old (R.length : Nat) true w := by
  unfold F61_J1
  simp only [BIf_true, NN_mk]
  refine ⟨by decide, load_ptr (i := 1) hC.nb rfl (F74_call (F74_spec (back_int ?_)))⟩
  generalize hd0 : l.ptr.isNone = d0
  -- the child that is left
  obtain ⟨x, hx⟩ : ∃ x, x = bif d0 then r else l := ⟨_, rfl⟩
  have hxl : x.list = l.list ++ r.list ∧ x.h + 1 = (Tr.nd n bal l e r).h ∧ (∀ b ∈ x.bs, b ∈ l.bs ++ r.bs) ∧ x.bs.Sublist (l.bs ++ r.bs) := by
    have p1 := h_pos l
    have p2 := h_pos r
    cases l with
    | nil =>
      cases hd0
      rw [hx]
      refine ⟨by simp [Tr.list, Tr.ptr], ?_, fun b hb => by simpa [Tr.bs, Tr.ptr] using hb, by simp [Tr.bs, Tr.ptr]⟩
      show r.h + 1 = max 0 r.h + 1; omega
    | nd b' bl' l' e' r' =>
      cases hd0
      have hr : r = .nil := by rcases hlr with h | h; cases h; exact h
      subst hr; subst hx
      refine ⟨by simp [Tr.list, Tr.ptr], ?_, fun b hb => by simpa [Tr.bs, Tr.ptr] using hb, by simp [Tr.bs, Tr.ptr]⟩
      simp only [Tr.ptr, Option.isNone_some, cond_false]
      show _ = max _ _ + 1
      rw [show (Tr.nil).h = 0 from rfl]; omega
  have hxp : (ncell bal l.ptr r.ptr e)[1 + sd d0]? = some (.pointer x.ptr) := by subst hx; cases d0 <;> rfl
  have hxT : ∀ {w'}, TrM w' l → TrM w' r → TrM w' x := fun a b => by subst hx; cases d0; exact a; exact b
  have hxA : x.AVL := by
    have := plug_sub R hC.av
    subst hx; cases d0; exact this.1; exact this.2.1
  have hndx : (pbs R ++ x.bs).Nodup := (hC.nd).sublist ((List.Sublist.refl _).append (hxl.2.2.2.trans (List.sublist_cons_self ..)))
  have hbkx : ∀ b ∈ pbs R ++ x.bs, b ∈ T ∨ w0.heap.size ≤ b := fun b hb => hC.bk b (by
    rcases List.mem_append.1 hb with h | h
    · exact List.mem_append_left _ h
    · exact List.mem_append_right _ (List.mem_cons_of_mem _ (hxl.2.2.1 b h)))
  have hli : (plug R x).list = inL R ++ (l.list ++ r.list) ++ inR R := by rw [plug_list, hxl.1]
  have fin : ∀ w', ImM w' ib (hd R x.ptr) num → PM w' R x.ptr → TrM w' x → Cac w' cb R → Dir w' dd R → Blk w' nb 3 [.int .i64 0] → Fr (fun b => b = ib ∨ b ∈ T) w0 w' → F61_J2 k (some ⟨ib, 0, none⟩) (some ⟨cb, 0, none⟩) 64 cc (R.length : Nat) ⟨nb, 0, none⟩ (some ⟨dd, 0, none⟩) 64 dc old w' :=
    fun w' h1 h2 h3 h4 h5 h6 h7 => del_up ⟨h1, h2, h3, hndx, hbkx, hli, ⟨_, hC.av, hxA, hxl.2.1⟩, h7⟩ h4 h5 h6 hne hib hcb hdd hnb (by omega) hk
  have hndR := (List.nodup_append.1 hC.nd).1
  have hdis := (List.nodup_append.1 hC.nd).2.2
  rcases List.eq_nil_or_concat R with e1 | ⟨Q, g, e1⟩
  · subst e1
    rw [show (((([] : List Fm).length : Nat) : Int) != 0) = false from rfl]
    simp only [BIf_false, NN_mk]
    rw [adr]
    refine ⟨dI_ok d0, load_ptr hC.nb hxp ?_⟩
    try simp only [NN_mk]
    refine store_intro hC.im (by simp) rfl fun w1 b1 f1 z1 => ?_
    have hI : ∀ {b t us}, Blk w b t us → t ≠ 121 → ¬ b = ib := fun hb ht h => by rw [h] at hb; exact tyne hb hC.im ht
    obtain ⟨vs5, hv5, _⟩ := id hCa
    obtain ⟨ds5, hd5, _⟩ := id hD
    have hT1 : ∀ {s : Tr}, TrM w s → TrM w1 s := fun hs => hs.fr f1 fun b hb => by
      obtain ⟨us, hu⟩ := blk_of hs hb
      exact hI hu (by decide)
    exact fin w1 b1 trivial (hxT (hT1 hC.tl) (hT1 hC.tr)) (hCa.fr f1 (hI hv5 (by decide))) (hD.fr f1 (hI hd5 (by decide))) (hN.fr f1 (hI hN (by decide))) (hC.fr.trans f1 fun b h => .inl (.inl h))
  · rw [List.concat_eq_append] at e1
    subst e1
    have hq : (Q ++ [g]).length = Q.length + 1 := by simp
    rw [hq] at hl fin ⊢
    rw [show (((Q.length + 1 : Nat) : Int) != 0) = true by rw [bne_iff_ne]; omega]
    simp only [BIf_true]
    refine drw_intro fun w1 f1 z1 => ?_
    have C1 := hCa.fr f1 id
    have D1 := hD.fr f1 id
    have n1 := hC.nb.fr f1 id
    have p1 := PM.fr f1 hC.pm fun _ _ h => h
    have i1 := Blk.fr hC.im f1 id
    have N1 := hN.fr f1 id
    rw [sub_one (by omega)]
    try simp only [NN_mk, Int.toNat_natCast]
    refine ⟨by omega, C1.load (get_last Q g) ⟨by omega, D1.load (get_last Q g) ?_⟩⟩
    try simp only [NN_mk]
    rw [adr]
    refine ⟨dI_ok d0, load_ptr n1 hxp ?_⟩
    try simp only [NN_mk]
    rw [adr]
    have hgb : g.b ∈ pbs (Q ++ [g]) := mem_b (by simp)
    refine ⟨dI_ok g.d, link_up p1 hndR fun w2 p2 f2 z2 => ?_⟩
    obtain ⟨gu, hgu⟩ := pm_blk p1 g.b hgb
    have hG7 : ∀ {b t us}, Blk w1 b t us → t ≠ 119 → ¬ b = g.b := fun hb ht h => by rw [h] at hb; exact tyne hb hgu ht
    obtain ⟨vs5, hv5, _⟩ := id C1
    obtain ⟨ds5, hd5, _⟩ := id D1
    have i2 := Blk.fr i1 f2 (hG7 i1 (by decide))
    rw [hd_ne (by simp) q x.ptr] at i2
    have hT1 : ∀ {s : Tr}, TrM w s → (∀ b ∈ s.bs, b ∈ l.bs ++ r.bs) → TrM w2 s := fun hs hb0 => (hs.fr0 f1).fr f2 fun b hb h => by
      have h : b = g.b := h
      exact hdis g.b hgb b (List.mem_cons_of_mem _ (hb0 b hb)) h.symm
    exact fin w2 i2 p2 (hxT (hT1 hC.tl fun b hb => List.mem_append_left _ hb) (hT1 hC.tr fun b hb => List.mem_append_right _ hb)) (C1.fr f2 (hG7 hv5 (by decide))) (D1.fr f2 (hG7 hd5 (by decide))) (N1.fr f2 (hG7 N1 (by decide))) ((hC.fr.trans f1 fun _ h => h.elim).trans f2 fun b h => by
      have h : b = g.b := h
      rw [h]
      exact (hbkx g.b (List.mem_append_left _ hgb)).imp .inr id)
/-- The heir's entry is put into the node, the heir is cut out. -/
theorem heir_out {w : World} {cc dc : Nat} {Z : List Fm} {hb : Nat} {hbal : Int} {he : It2} {hr : Tr} (hC : Cut w0 ib num T R (some ⟨n, 0, none⟩) n bal l he r w) (hr' : plug Z (.nd hb hbal .nil he hr) = r) (hZ : ∀ g ∈ Z, g.d = false) (hCa : Cac w cb (R ++ ⟨n, bal, true, he, l⟩ :: Z)) (hD : Dir w dd (R ++ ⟨n, bal, true, he, l⟩ :: Z)) (hN : Blk w nb 3 [.int .i64 0]) (hne : dd ≠ nb) (hib : ib < w0.heap.size) (hcb : w0.heap.size ≤ cb) (hdd : w0.heap.size ≤ dd) (hnb : w0.heap.size ≤ nb) (hl : (R ++ ⟨n, bal, true, he, l⟩ :: Z).length ≤ 60)
    (hk : ∀ w', Dne w0 ib num T (inL R ++ (l.list ++ r.list) ++ inR R) w' → k old w') : F61_J4 k (some ⟨ib, 0, none⟩) (some ⟨cb, 0, none⟩) 64 cc (some ⟨n, 0, none⟩) ((R ++ ⟨n, bal, true, he, l⟩ :: Z).length : Nat) ⟨nb, 0, none⟩ (some ⟨dd, 0, none⟩) 64 dc old (some ⟨hb, 0, none⟩) w := by
  generalize hfn : (⟨n, bal, true, he, l⟩ : Fm) = fn at *
  have hpl : plug (R ++ fn :: Z) (.nd hb hbal .nil he hr) = plug R (.nd n bal l he r) := by
    rw [plug_append]
    show plug R (nd' fn.d fn.b fn.bal fn.e (plug Z _) fn.o) = _
    rw [hr', ← hfn]; rfl
  have hpmr : PM w Z (some ⟨hb, 0, none⟩) ∧ TrM w (.nd hb hbal .nil he hr) := by
    have := hC.tr
    rw [← hr', trm_plug] at this
    exact this
  have hpm : PM w (R ++ fn :: Z) (some ⟨hb, 0, none⟩) := by
    rw [pm_append]
    have hhd : hd (fn :: Z) (some (⟨hb, 0, none⟩ : Addr)) = some ⟨n, 0, none⟩ := by rw [← hfn]; rfl
    rw [hhd]
    refine ⟨hC.pm, ?_, ?_, hpmr.1⟩
    · have := hC.nb
      rw [← hr', plug_ptr] at this
      rw [← hfn]
      exact this
    · rw [← hfn]; exact hC.tl
  obtain ⟨hhb, _, hhr⟩ := hpmr.2
  have hcnt : ∀ a, (hb :: (pbs (R ++ fn :: Z) ++ hr.bs)).count a = (pbs R ++ (n :: (l.bs ++ r.bs))).count a := fun a => by
    rw [← hr']
    simp only [List.count_append, List.count_cons, cnt_plug, pbs_append, pbs, ← hfn, Tr.bs, List.nil_append]
    omega
  have hnd1 : (hb :: (pbs (R ++ fn :: Z) ++ hr.bs)).Nodup := nodup_of hC.nd hcnt
  have hnd2 := (List.nodup_cons.1 hnd1).2
  have hbn := (List.nodup_cons.1 hnd1).1
  have hmem : ∀ b, b ∈ hb :: (pbs (R ++ fn :: Z) ++ hr.bs) → b ∈ T ∨ w0.heap.size ≤ b := fun b hb' => hC.bk b (by
    rw [← List.count_pos_iff] at hb' ⊢
    rwa [← hcnt])
  have him : ImM w ib (hd (R ++ fn :: Z) hr.ptr) num := by
    rw [hd_append]
    have := hC.im
    rw [show hd (fn :: Z) hr.ptr = some ⟨n, 0, none⟩ by rw [← hfn]; rfl]; exact this
  have hli : (plug (R ++ fn :: Z) hr).list = inL R ++ (l.list ++ r.list) ++ inR R := by
    rw [plug_list, inL_append, inR_append, ← hr', plug_list]
    simp only [inL, inR, inL_left hZ, ← hfn, cond_true, Tr.list, List.nil_append, List.append_nil, List.append_assoc, List.cons_append, List.singleton_append]
  have hav : ∃ y, (plug (R ++ fn :: Z) y).AVL ∧ hr.AVL ∧ hr.h + 1 = y.h := by
    refine ⟨_, by rw [hpl]; exact hC.av, ?_, ?_⟩
    · have h1 := plug_sub R hC.av
      have h2 : (plug Z (.nd hb hbal .nil he hr)).AVL := by rw [hr']; exact h1.2.1
      exact (plug_sub Z h2).2.1
    · have := h_pos hr
      show hr.h + 1 = max 0 hr.h + 1; omega
  -- the last node of the stack
  obtain ⟨Q, g, hQ⟩ : ∃ Q g, R ++ fn :: Z = Q ++ [g] := by
    rcases List.eq_nil_or_concat (R ++ fn :: Z) with h | ⟨Q, g, h⟩
    · simp at h
    · exact ⟨Q, g, by rw [h, List.concat_eq_append]⟩
  have hgd : decide ((some (⟨g.b, 0, none⟩ : Addr)) = some ⟨n, 0, none⟩) = g.d := by
    rcases List.eq_nil_or_concat Z with h | ⟨Z', g', h⟩
    · subst h
      have h1 : R = Q ∧ fn = g := by have := List.append_inj' hQ rfl; exact ⟨this.1, by simpa using this.2⟩
      rw [← h1.2, ← hfn]; simp
    · rw [List.concat_eq_append] at h
      subst h
      have h1 : g' = g := by
        have := List.append_inj' (show (R ++ fn :: Z') ++ [g'] = Q ++ [g] by rw [← hQ]; simp) rfl
        simpa using this.2
      subst h1
      have hd := hZ g' (by simp)
      rw [hd]
      have hnn : g'.b ≠ n := fun h => by
        have hx := (List.nodup_append.1 hnd2).1
        rw [pbs_append] at hx
        have hy := (List.nodup_append.1 hx).2.1
        simp only [pbs, ← hfn, List.nodup_cons, List.mem_append] at hy
        exact hy.1 (.inr (by rw [← h]; exact mem_b (by simp)))
      simpa using hnn
  rw [hQ] at hpm hCa hD hl hnd1 hnd2 hbn hmem him hli hav ⊢
  have hq : (Q ++ [g]).length = Q.length + 1 := by simp
  unfold F61_J4
  refine drw_intro fun w1 f1 z1 => ?_
  have C1 := hCa.fr f1 id
  have D1 := hD.fr f1 id
  have p1 := PM.fr f1 hpm fun _ _ h => h
  have i1 := Blk.fr him f1 id
  have N1 := hN.fr f1 id
  have h1 := hhb.fr f1 id
  have hr1 := hhr.fr0 f1
  have hgb : g.b ∈ pbs (Q ++ [g]) := mem_b (by simp)
  obtain ⟨gu, hgu⟩ := pm_blk p1 g.b hgb
  have kg : Known w1 (some ⟨g.b, 0, none⟩) := .inr ⟨_, _, _, rfl, hgu⟩
  have kn : Known w1 (some ⟨n, 0, none⟩) := .inr ⟨_, _, _, rfl, hC.nb.fr f1 id⟩
  have c0 := C1.cell (get_last Q g)
  rw [hq, sub_one (by omega)]
  try simp only [NN_mk, Int.toNat_natCast]
  rw [hq] at hl
  refine ⟨by omega, C1.load (get_last Q g) ⟨by omega, C1.load (get_last Q g) ⟨by decide, load_ptr (i := 2) h1 rfl ?_⟩⟩⟩
  try simp only [NN_mk]
  refine ptr_eql kg kn ?_
  rw [hgd]
  have ch : w1.cell? (((⟨hb, 0, none⟩ : Addr).add 1).add ((1 : Int).toNat)) = some (.pointer hr.ptr) := by
    show w1.cell? ⟨hb, 2, none⟩ = _; rw [h1.cell]; rfl
  refine ⟨ch, c0, F74_call (F74_spec (back_int ⟨ch, c0, c0, dI_ok g.d, ?_⟩))⟩
  rw [adr]
  refine link_up p1 (List.nodup_append.1 hnd2).1 fun w2 p2 f2 z2 => ?_
  have hG7 : ∀ {b t us}, Blk w1 b t us → t ≠ 119 → ¬ b = g.b := fun hb ht h => by rw [h] at hb; exact tyne hb hgu ht
  obtain ⟨vs5, hv5, _⟩ := id C1
  obtain ⟨ds5, hd5, _⟩ := id D1
  have := del_up (k := k) (old := old) (L := inL R ++ (l.list ++ r.list) ++ inR R) (cc := cc) (dc := dc) (x := hr) ⟨Blk.fr i1 f2 (hG7 i1 (by decide)), p2, hr1.fr f2 fun b hb h => (List.nodup_append.1 hnd2).2.2 g.b hgb b hb (by have h : b = g.b := h; exact h.symm), hnd2, fun b hb' => hmem b (List.mem_cons_of_mem _ hb'), hli, hav, (hC.fr.trans f1 fun _ h => h.elim).trans f2 fun b h => by
    have h : b = g.b := h
    rw [h]
    exact (hmem g.b (List.mem_cons_of_mem _ (List.mem_append_left _ hgb))).imp .inr id⟩ (C1.fr f2 (hG7 hv5 (by decide))) (D1.fr f2 (hG7 hd5 (by decide))) (N1.fr f2 (hG7 N1 (by decide))) hne hib hcb hdd hnb (by omega) hk
  rw [hq] at this
  exact this
/-- Both children are there: the way to the heir. -/
theorem cut_two {w : World} {cc dc : Nat} (hC : Cut w0 ib num T R q n bal l e r w) (hlr : r ≠ .nil) (hCa : Cac w cb R) (hD : Dir w dd R) (hN : Blk w nb 3 [.int .i64 0]) (hne : dd ≠ nb) (hib : ib < w0.heap.size) (hcb : w0.heap.size ≤ cb) (hdd : w0.heap.size ≤ dd) (hnb : w0.heap.size ≤ nb) (hl : (plug R (.nd n bal l e r)).list.length ≤ 60)
    (hk : ∀ w', Dne w0 ib num T (inL R ++ (l.list ++ r.list) ++ inR R) w' → k old w') : F61_J1 k (some ⟨ib, 0, none⟩) (some ⟨cb, 0, none⟩) 64 cc (some ⟨n, 0, none⟩) (R.length : Nat) ⟨nb, 0, none⟩ (some ⟨dd, 0, none⟩) 64 dc old (R.length : Nat) false w := by
  unfold F61_J1
  simp only [BIf_false, NN_mk, Int.toNat_natCast]
  have hRl := plug_len R (.nd n bal l e r)
  have hcl : 1 ≤ (Tr.nd n bal l e r).list.length := by simp [Tr.list]; omega
  refine ⟨by decide, load_ptr (i := 2) hC.nb rfl ?_⟩
  try simp only [NN_mk, Int.toNat_natCast]
  generalize hfn : (⟨n, bal, true, e, l⟩ : Fm) = fn at *
  have sn : ∀ (i : Nat) (f : Fm), (R ++ [fn])[i]? = some f → (i = R.length ∧ f = fn) ∨ (i ≠ R.length ∧ R[i]? = some f) := fun i f h => snoc_put i f h
  refine ⟨by omega, hD.put (R ++ [fn]) (by omega) (fun i f h => (sn i f h).imp (fun h => ⟨h.1, by rw [h.2, ← hfn]; rfl⟩) fun h => ⟨h.1, f, h.2, rfl⟩) fun w1 D1 f1 z1 => ?_⟩
  obtain ⟨ds, hds, _⟩ := id hD
  have hDt : ∀ {b t us}, Blk w b t us → t ≠ 3 → ¬ b = dd := fun hb ht h => by rw [h] at hb; exact tyne hb hds ht
  obtain ⟨vs, hvs, _⟩ := id hCa
  have C1 := hCa.fr f1 (hDt hvs (by decide))
  refine ⟨by omega, C1.put (R ++ [fn]) (by omega) (fun i f h => (sn i f h).imp (fun h => ⟨h.1, by rw [h.2, ← hfn]⟩) fun h => ⟨h.1, f, h.2, rfl⟩) fun w2 C2 c2 f2 z2 => ?_⟩
  have D2 : Dir w2 dd (R ++ [fn]) := D1.fr f2 fun h => by
    have h : dd = cb := h
    rw [h] at hds; exact tyne hds hvs (by decide)
  have f02 : Fr (fun b => b = cb ∨ b = dd) w w2 := (f1.mono fun b h => .inl (.inr h)).trans f2 fun b h => .inl (.inl h)
  rw [add_one (by omega)]
  have hcbt : ∀ {b t us}, Blk w b t us → t ≠ 3 → t ≠ 115 → ¬ (b = cb ∨ b = dd) := fun hb h1 h2 h => by
    rcases h with h | h
    · rw [h] at hb; exact tyne hb hvs h2
    · rw [h] at hb; exact tyne hb hds h1
  have hNn : ¬ (nb = cb ∨ nb = dd) := by
    rintro (h | h)
    · rw [h] at hN; exact tyne hN hvs (by decide)
    · exact hne h.symm
  have lenP : ∀ Z : List Fm, (R ++ fn :: Z).length = R.length + 1 + Z.length := fun Z => by simp; omega
  refine F61_L4_rule (fun im cp cl cc it top dn dp dl dc od ot heir w' => im = some ⟨ib, 0, none⟩ ∧ cp = some ⟨cb, 0, none⟩ ∧ cl = 64 ∧ it = some ⟨n, 0, none⟩ ∧ dn = ⟨nb, 0, none⟩ ∧ dp = some ⟨dd, 0, none⟩ ∧ dl = 64 ∧ od = old ∧ ot = (R.length : Nat) ∧ ∃ Z c, top = ((R ++ fn :: Z).length : Nat) ∧ heir = c.ptr ∧ plug Z c = r ∧ (∀ g ∈ Z, g.d = false) ∧ c ≠ .nil ∧ Cac w' cb (R ++ fn :: Z) ∧ Dir w' dd (R ++ fn :: Z) ∧ Fr (fun b => b = cb ∨ b = dd) w w')
    (fun _ _ _ _ _ top _ _ _ _ _ _ _ _ => (64 - top).toNat) ?_ ⟨rfl, rfl, rfl, rfl, rfl, rfl, rfl, rfl, rfl, [], r, by rw [lenP]; simp, rfl, rfl, fun g h => (by cases h), hlr, C2, D2, f02⟩
  rintro im cp cl cc it top dn dp dl dc od ot heir w3 ⟨rfl, rfl, rfl, rfl, rfl, rfl, rfl, rfl, rfl, Z, c, rfl, rfl, hZr, hZ, hc, C3, D3, f3⟩
  cases c with
  | nil => exact absurd rfl hc
  | nd hb hbal hl' he hr =>
  have T3 : TrM w3 r := hC.tr.fr f3 fun b hb => by
    obtain ⟨us, hu⟩ := blk_of hC.tr hb
    exact hcbt hu (by decide) (by decide)
  have T3' := T3
  rw [← hZr, trm_plug] at T3'
  obtain ⟨pZ, hhb, hhl, hhr⟩ := T3'
  have hbound : (R ++ fn :: Z).length + 1 ≤ 60 := by
    have h1 := plug_len (R ++ fn :: Z) (.nd hb hbal hl' he hr)
    have h2 : plug (R ++ fn :: Z) (.nd hb hbal hl' he hr) = plug R (.nd n bal l e r) := by
      rw [plug_append]
      show plug R (nd' fn.d fn.b fn.bal fn.e (plug Z _) fn.o) = _
      rw [hZr, ← hfn]; rfl
    rw [h2] at h1
    simp only [Tr.list, List.length_append, List.length_cons] at h1 hl ⊢
    omega
  unfold F61_L4
  try simp only [Tr.ptr, NN_mk, Int.toNat_natCast]
  refine ⟨by decide, load_ptr (i := 1) hhb rfl ?_⟩
  cases hl' with
  | nd lb lbal ll le lr =>
    simp only [Tr.ptr, Option.isNone_some, Bool.not_false, BIf_true]
    generalize hf : (⟨hb, hbal, false, he, hr⟩ : Fm) = f
    have eP : R ++ fn :: (Z ++ [f]) = (R ++ fn :: Z) ++ [f] := by simp
    have sn3 : ∀ (i : Nat) (g : Fm), (R ++ fn :: (Z ++ [f]))[i]? = some g → (i = (R ++ fn :: Z).length ∧ g = f) ∨ (i ≠ (R ++ fn :: Z).length ∧ (R ++ fn :: Z)[i]? = some g) := fun i g h => snoc_put i g (by rw [← eP]; exact h)
    refine ⟨by omega, D3.put (R ++ fn :: (Z ++ [f])) (by omega) (fun i g h => (sn3 i g h).imp (fun h => ⟨h.1, by rw [h.2, ← hf]; rfl⟩) fun h => ⟨h.1, g, h.2, rfl⟩) fun w4 D4 f4 z4 => ?_⟩
    obtain ⟨ds3, hds3, _⟩ := id D3
    obtain ⟨vs3, hvs3, _⟩ := id C3
    have C4 := C3.fr f4 fun h => by
      have h : cb = dd := h
      rw [h] at hvs3; exact tyne hvs3 hds3 (by decide)
    refine ⟨by omega, C4.put (R ++ fn :: (Z ++ [f])) (by omega) (fun i g h => (sn3 i g h).imp (fun h => ⟨h.1, by rw [h.2, ← hf]⟩) fun h => ⟨h.1, g, h.2, rfl⟩) fun w5 C5 c5 f5 z5 => ?_⟩
    have D5 := D4.fr f5 fun h => by
      have h : dd = cb := h
      rw [h] at hds3; exact tyne hds3 hvs3 (by decide)
    have f35 : Fr (fun b => b = cb ∨ b = dd) w3 w5 := (f4.mono fun b h => .inl (.inr h)).trans f5 fun b h => .inl (.inl h)
    have hb5 : Blk w5 hb 119 (ncell hbal (some ⟨lb, 0, none⟩) hr.ptr he) := hhb.fr f35 fun h => by
      rcases h with h | h
      · rw [h] at hhb; exact tyne hhb hvs3 (by decide)
      · rw [h] at hhb; exact tyne hhb hds3 (by decide)
    refine ⟨by decide, load_ptr (i := 1) hb5 rfl ?_⟩
    rw [add_one (by omega)]
    refine ⟨⟨(by trivial), (by trivial), (by trivial), (by trivial), (by trivial), (by trivial), (by trivial), (by trivial), (by trivial), Z ++ [f], .nd lb lbal ll le lr, by rw [lenP, lenP]; simp; omega, rfl, ?_, ?_, by simp, C5, D5, f3.trans f35 fun b h => .inl h⟩, by omega⟩
    · rw [plug_append, ← hf]; exact hZr
    · intro g hg
      rcases List.mem_append.1 hg with h | h
      · exact hZ g h
      · simp only [List.mem_singleton] at h; rw [h, ← hf]
  | nil =>
    simp only [Tr.ptr, Option.isNone_none, Bool.not_true, BIf_false]
    refine load_any (i := 3) hhb rfl ⟨rfl, ?_⟩
    have n3 := hC.nb.fr f3 (hcbt hC.nb (by decide) (by decide))
    refine store_intro (i := 3) n3 (by simp [ncell]) rfl fun w4 n4 f4 z4 => ?_
    have hn4 : Blk w4 n 119 (ncell bal l.ptr r.ptr he) := n4
    have hdis := List.nodup_append.1 hC.nd
    have hn2 := hdis.2.1
    simp only [List.nodup_cons, List.mem_append, not_or] at hn2
    have n3t : ∀ {b t us}, Blk w3 b t us → t ≠ 119 → ¬ b = n := fun hb ht h => by rw [h] at hb; exact tyne hb n3 ht
    obtain ⟨ds3, hds3, _⟩ := id D3
    obtain ⟨vs3, hvs3, _⟩ := id C3
    have C4 := C3.fr f4 (n3t hvs3 (by decide))
    have D4 := D3.fr f4 (n3t hds3 (by decide))
    have N3 := hN.fr f3 hNn
    have N4 := N3.fr f4 (n3t N3 (by decide))
    have i3 := Blk.fr hC.im f3 (hcbt hC.im (by decide) (by decide))
    have i4 := Blk.fr i3 f4 (n3t i3 (by decide))
    have p3 := PM.fr f3 hC.pm fun b hb => by
      obtain ⟨us, hu⟩ := pm_blk hC.pm b hb
      exact hcbt hu (by decide) (by decide)
    have p4 := PM.fr f4 p3 fun b hb h => by have h : b = n := h; exact hdis.2.2 b hb n (by simp) h
    have l3 : TrM w3 l := hC.tl.fr f3 fun b hb => by
      obtain ⟨us, hu⟩ := blk_of hC.tl hb
      exact hcbt hu (by decide) (by decide)
    have l4 : TrM w4 l := l3.fr f4 fun b hb h => by have h : b = n := h; exact hn2.1.1 (h ▸ hb)
    have r4 : TrM w4 r := T3.fr f4 fun b hb h => by have h : b = n := h; exact hn2.1.2 (h ▸ hb)
    have fr4 : Fr (fun b => b = ib ∨ b ∈ T) w0 w4 := (hC.fr.trans f3 fun b h => .inr (by rcases h with h | h <;> omega)).trans f4 fun b h => by
      have h : b = n := h
      rw [h]
      exact (hC.bk n (by simp)).imp .inr id
    have av4 : (plug R (.nd n bal l he r)).AVL := (plug_avl R hC.av (t' := .nd n bal l he r) (by have h0 : (Tr.nd n bal l e r).AVL := plug_sub R hC.av; exact ⟨h0.1, h0.2.1, h0.2.2⟩) rfl).1
    have fin : ∀ w', Cut w0 ib num T R (some ⟨n, 0, none⟩) n bal l he r w' → Cac w' cb (R ++ fn :: Z) → Dir w' dd (R ++ fn :: Z) → Blk w' nb 3 [.int .i64 0] → F61_J4 k (some ⟨ib, 0, none⟩) (some ⟨cb, 0, none⟩) 64 cc (some ⟨n, 0, none⟩) ((R ++ fn :: Z).length : Nat) ⟨nb, 0, none⟩ (some ⟨dd, 0, none⟩) 64 dc od (some ⟨hb, 0, none⟩) w' := by
      intro w' h1 h2 h3 h4
      have C' : Cac w' cb (R ++ ⟨n, bal, true, he, l⟩ :: Z) := h2.sub fun i g hg => by
        rcases mid_get fn _ hg with ⟨h, h'⟩ | h
        · exact ⟨fn, by rw [h]; simp, by rw [h', ← hfn]⟩
        · exact ⟨g, h, rfl⟩
      have D' : Dir w' dd (R ++ ⟨n, bal, true, he, l⟩ :: Z) := h3.sub fun i g hg => by
        rcases mid_get fn _ hg with ⟨h, h'⟩ | h
        · exact ⟨fn, by rw [h]; simp, by rw [h', ← hfn]⟩
        · exact ⟨g, h, rfl⟩
      have hlen : (R ++ ⟨n, bal, true, he, l⟩ :: Z).length = (R ++ fn :: Z).length := by simp
      have := heir_out (k := k) (old := od) (cc := cc) (dc := dc) h1 hZr hZ C' D' h4 hne hib hcb hdd hnb (by rw [hlen]; omega) hk
      rw [hlen] at this
      exact this
    rcases List.eq_nil_or_concat R with e1 | ⟨Q, g, e1⟩
    · subst e1
      rw [show (((([] : List Fm).length : Nat) : Int) != 0) = false from rfl]
      simp only [BIf_false, NN_mk]
      refine store_intro i4 (by simp) rfl fun w5 b5 f5 z5 => ?_
      have hI : ∀ {b t us}, Blk w4 b t us → t ≠ 121 → ¬ b = ib := fun hb ht h => by rw [h] at hb; exact tyne hb i4 ht
      obtain ⟨vs5, hv5, _⟩ := id C4
      obtain ⟨ds5, hd5, _⟩ := id D4
      have hT1 : ∀ {s : Tr}, TrM w4 s → TrM w5 s := fun hs => hs.fr f5 fun b hb => by
        obtain ⟨us, hu⟩ := blk_of hs hb
        exact hI hu (by decide)
      exact fin w5 ⟨b5, trivial, hn4.fr f5 (hI hn4 (by decide)), hT1 l4, hT1 r4, hC.nd, hC.bk, av4, fr4.trans f5 fun b h => .inl (.inl h)⟩ (C4.fr f5 (hI hv5 (by decide))) (D4.fr f5 (hI hd5 (by decide))) (N4.fr f5 (hI N4 (by decide)))
    · rw [List.concat_eq_append] at e1
      subst e1
      have hq : (Q ++ [g]).length = Q.length + 1 := by simp
      rw [show ((((Q ++ [g]).length : Nat) : Int) != 0) = true by rw [bne_iff_ne, hq]; omega]
      simp only [BIf_true]
      refine drw_intro fun w5 f5 z5 => ?_
      have C5 := C4.fr f5 id
      have D5 := D4.fr f5 id
      have n5 := hn4.fr f5 id
      have p5 := PM.fr f5 p4 fun _ _ h => h
      have i5 := Blk.fr i4 f5 id
      have N5 := N4.fr f5 id
      have hs1 : subI .i64 (((Q ++ [g]).length : Nat) : Int) 1 = (Q.length : Nat) := by rw [hq, sub_one (by omega)]
      rw [hs1]
      try simp only [NN_mk, Int.toNat_natCast]
      have hix : ((Q ++ [g]) ++ fn :: Z)[Q.length]? = some g := get_left (get_last Q g)
      refine ⟨by omega, C5.load hix ⟨by omega, D5.load hix ?_⟩⟩
      try simp only [NN_mk]
      rw [adr]
      have hgb : g.b ∈ pbs (Q ++ [g]) := mem_b (by simp)
      refine ⟨dI_ok g.d, link_up (p := some ⟨n, 0, none⟩) p5 hdis.1 fun w6 p6 f6 z6 => ?_⟩
      obtain ⟨gu, hgu⟩ := pm_blk p5 g.b hgb
      have hG7 : ∀ {b t us}, Blk w5 b t us → t ≠ 119 → ¬ b = g.b := fun hb ht h => by rw [h] at hb; exact tyne hb hgu ht
      obtain ⟨vs5, hv5, _⟩ := id C5
      obtain ⟨ds5, hd5, _⟩ := id D5
      have i6 := Blk.fr i5 f6 (hG7 i5 (by decide))
      rw [hd_ne (by simp) q (some ⟨n, 0, none⟩)] at i6
      have hT1 : ∀ {s : Tr}, TrM w4 s → (∀ b ∈ s.bs, b ∈ l.bs ++ r.bs) → TrM w6 s := fun hs hb0 => (hs.fr0 f5).fr f6 fun b hb h => by
        have h : b = g.b := h
        exact hdis.2.2 g.b hgb b (List.mem_cons_of_mem _ (hb0 b hb)) h.symm
      exact fin w6 ⟨i6, p6, n5.fr f6 fun h => hdis.2.2 g.b hgb n (by simp) (by have h : n = g.b := h; exact h.symm), hT1 l4 fun b hb => List.mem_append_left _ hb, hT1 r4 fun b hb => List.mem_append_right _ hb, hC.nd, hC.bk, av4, (fr4.trans f5 fun _ h => h.elim).trans f6 fun b h => by
        have h : b = g.b := h
        rw [h]
        exact (hC.bk g.b (List.mem_append_left _ hgb)).imp .inr id⟩ (C5.fr f6 (hG7 hv5 (by decide))) (D5.fr f6 (hG7 hd5 (by decide))) (N5.fr f6 (hG7 N5 (by decide)))
end
end Go.Proofs.Ytokejbejoegnnaa.E
