/-
  Ordered range trees: Delete of several.
-/
import Derived.Test.YtfokodpnoiilbaaGreatTD
namespace Go.Proofs.YtfokodpnoiilbaaGreat.E
open Go
set_option linter.unusedSimpArgs false
set_option linter.unusedVariables false
set_option maxRecDepth 100000
set_option maxHeartbeats 8000000

section
variable {w : World} {k : Value → W} {base tb dm B : Nat} {L : ON (Option Dtn) dm}
theorem del1R {e : Dtn} (h : TrR w base tb dm B L) (he : DtOk w e) (hd1 : 1 ≤ dm) (hdm : dm < 900) (hB : B < 90000)
    (hk1 : oldE dm L e = none → ∀ w', TrR w' base tb dm B (delE dm L e) → FX base tsD w w' → k (.pointer none) w')
    (hk2 : ∀ o (nd : Rd), oldE dm L e = nd.e → ∀ w', TrR w' base tb dm B (delE dm L e) → Blk w' o 175 (rdc nd) → (∀ x, nd.e = some x → DtOk w' x) → FX base tsD w w' → k (.pointer (some ⟨o, 0, none⟩)) w') : F98 k (some ⟨tb, 0, none⟩) e.v w := by
  obtain ⟨D, s, pp, pl, pc, h1, h2, h3, h4, h5⟩ := h
  have hsz := szN_delE dm L e hd1
  refine F98_spec h1 h5 h2 he hd1 hdm hB (by omega) (fun hs => ?_) (fun hno w' pp' pl' pc' h' hp' f' => ?_) fun o ho hg w' s' pp' pl' pc' p h' hp' f' => ?_
  · rw [h3] at hs
    cases hq : getON dm L (kyD e dm 1) with
    | none => rw [hq] at hs; cases hs
    | some y => rw [hq] at hsz; simp at hsz; omega
  · rw [h3] at hno
    have eo : oldE dm L e = none := by unfold oldE; rw [hno]; rfl
    have ed : delE dm L e = L := by unfold delE; rw [hno]; rfl
    exact hk1 eo w' (by rw [ed]; exact ⟨D, s, pp', pl', pc', h', h2, h3, h4, hp'⟩) f'
  · rw [h3] at hg
    have eo : oldE dm L e = (s o).e := by unfold oldE; rw [hg]; rfl
    have ed : delE dm L e = delT dm L (kyD e dm 1) := by unfold delE; rw [hg]; rfl
    rw [hg] at hsz
    have hsz : szN dm (delE dm L e) + 1 = szN dm L := hsz
    obtain ⟨m, rfl⟩ : ∃ m, dm = m + 1 := ⟨dm - 1, by omega⟩
    have p : DPost tb m 1 e tb D s s' := p
    have hA : absN (m + 1) s' tb = delE (m + 1) L e := by rw [p.ab, h3, ed]
    exact hk2 o (s' o) (by rw [eo, p.en]) w' ⟨D, s', pp', pl', pc', by rw [show szN (m + 1) (delE (m + 1) L e) = szN (m + 1) L - 1 by omega]; exact h', rch_mono h2 p.nd (by rw [hA, ed]; exact srt_delT _ _ _ (h3 ▸ h2.sr)) p.rc p.kl, hA, by omega, hp'⟩ (h'.nodes o ho) (fun x hx => h'.ok o ho x hx) f'
/-- Delete. -/
theorem F89_spec {ys : List Dtn} {p : Option Addr} {c : Nat} (h : TrR w base tb dm B L) (O : Own w 76 p ys.length c (ys.map Dtn.v)) (ok : ∀ y ∈ ys, DtOk w y) (hd1 : 1 ≤ dm) (hdm : dm < 900) (hB : B < 90000) (hl : ys.length < 90000)
    (hk : ∀ w' p' c', TrR w' base tb dm B (delsE dm L ys) → Own w' 76 p' ys.length c' ((goneE dm L ys).map rdE) → (∀ o ∈ goneE dm L ys, ∀ x, o = some x → DtOk w' x) → FX base tsD w w' → k (.slice p' ys.length c') w') :
    F89 k (some ⟨tb, 0, none⟩) p ys.length c w := by
  unfold F89
  cases ys with
  | nil =>
    rw [show (((([] : List Dtn).length : Nat) : Int) == 0) = true from rfl, BIf_true]
    exact hk w none 0 h (Own.nil _ _) (fun o ho => by cases ho) (.of0 (Fr.refl _ _))
  | cons y0 ys0 =>
    generalize hys : y0 :: ys0 = ys at *
    have hpos : 0 < ys.length := by rw [← hys]; simp
    rw [show (((ys.length : Nat) : Int) == 0) = false from beq_eq_false_iff_ne.2 (by omega), BIf_false]
    obtain ⟨ie, g1, g2, g3, g4⟩ := inf153
    refine make_intro ys.length ys.length und144 g1 g2 g3 rfl (by omega) (by omega) (Nat.le_refl _) fun w1 f1 o1 b1 z1 => ?_
    have hq := z1
    generalize hqq : w.heap.size = q at o1 b1
    refine F89_L1_rule (I := fun ot op ol oc sp sl sc n i w' => ot = some ⟨tb, 0, none⟩ ∧ op = some ⟨q, 0, none⟩ ∧ ol = ys.length ∧ oc = ys.length ∧ sp = p ∧ sl = ys.length ∧ sc = c ∧ n = ((ys.length : Nat) : Int) ∧ ∃ t : Nat, i = ((t : Nat) : Int) ∧ t ≤ ys.length ∧ TrR w' base tb dm B (delsE dm L (ys.take t)) ∧ Own w' 76 (some ⟨q, 0, none⟩) ys.length ys.length ((goneE dm L (ys.take t)).map rdE ++ List.replicate (ys.length - t) .nilIface) ∧ (∀ o ∈ goneE dm L (ys.take t), ∀ x, o = some x → DtOk w' x) ∧ Own w' 76 p ys.length c (ys.map Dtn.v) ∧ (∀ y ∈ ys, DtOk w' y) ∧ FX base tsD w w')
      (μ := fun ot op ol oc sp sl sc n i w' => ys.length - i.toNat) ?_ ⟨rfl, rfl, rfl, rfl, rfl, rfl, rfl, rfl, 0, rfl, Nat.zero_le _, h.fr0 f1, o1, (fun o ho => by cases ho), O.fr f1 fun _ _ => id, fun y hy => (ok y hy).fr0 f1, .of0 f1⟩
    rintro ot op ol oc sp sl sc n i w2 ⟨e1, e2, e3, e4, e5, e6, e7, rfl, t, rfl, ht, h2, o2, ok2, O2, oky, f2⟩
    obtain rfl := e7.symm
    obtain rfl := e5.symm
    unfold F89_L1
    rw [e1, e2, e3, e4, e6]
    by_cases hlt : t < ys.length
    · rw [decide_eq_true (show ((t : Nat) : Int) < ((ys.length : Nat) : Int) by omega), BIf_true]
      have hy : ys[t]? = some ys[t] := List.getElem?_eq_getElem hlt
      have hmem : ys[t] ∈ ys := List.getElem_mem hlt
      generalize ys[t] = y at hy hmem
      obtain ⟨q2, rest2, hp, hB2, _, _⟩ := O2.get (by omega)
      have hsn : ys.take (t + 1) = ys.take t ++ [y] := take_snoc hy
      have eA : delsE dm L (ys.take (t + 1)) = delE dm (delsE dm L (ys.take t)) y := by rw [hsn, delsE_snoc]
      have eO : goneE dm L (ys.take (t + 1)) = goneE dm L (ys.take t) ++ [oldE dm (delsE dm L (ys.take t)) y] := by rw [hsn, goneE_snoc]
      generalize delsE dm L (ys.take t) = Lt at h2 eA eO
      have hlen : (goneE dm L (ys.take t)).length = t := by rw [goneE_length, List.length_take]; omega
      generalize goneE dm L (ys.take t) = os at o2 ok2 eO hlen
      rw [hp, NN_mk, Req_iff, Int.toNat_natCast, add_mk, Nat.zero_add]
      refine ⟨by omega, load_any (v := y.v) hB2 (by rw [List.getElem?_append_left (by simpa using hlt), List.getElem?_map, hy]; rfl) ?_⟩
      rw [show y.v = Value.iface 89 y.a from rfl, IfaceNil_iface, BIf_false, show Value.iface 89 y.a = y.v from rfl]
      have hrep : List.replicate (ys.length - t) Value.nilIface = Value.nilIface :: List.replicate (ys.length - (t + 1)) Value.nilIface := by
        rw [show ys.length - t = (ys.length - (t + 1)) + 1 by omega, List.replicate_succ]
      have hqlt : w.heap.size ≤ q := by omega
      have hmu : ys.length - (((t : Nat) : Int) + 1).toNat < ys.length - ((t : Nat) : Int).toNat := by omega
      refine F98_call (del1R h2 (oky y hmem) hd1 hdm hB (fun hno w3 h3 f3 => back_ptr ?_) fun o nd ho w3 h3 hnd hx3 f3 => back_ptr ?_)
      · have o3 := f3.own o2 (by decide)
        have O3 := f3.own O2 (by decide)
        have oky3 : ∀ y ∈ ys, DtOk w3 y := fun y hy => f3.dt (oky y hy) (by decide)
        have ok3 : ∀ o ∈ os, ∀ x, o = some x → DtOk w3 x := fun o ho x hx => f3.dt (ok2 o ho x hx) (by decide)
        rw [addI_i64 (by omega) (by omega), show ((t : Nat) : Int) + 1 = ((t + 1 : Nat) : Int) by omega]
        rw [show (!(none : Option Addr).isNone) = false from rfl, BIf_false]
        rw [hno] at eO
        refine ⟨⟨by trivial, by trivial, by trivial, by trivial, rfl, by trivial, by trivial, by trivial, t + 1, by trivial, hlt, by rw [eA]; exact h3, ?_, ?_, by rw [← hp]; exact O3, oky3, f2.trans f3⟩, by omega⟩
        · rw [eO, List.map_append, List.append_assoc]
          rw [hrep] at o3
          exact o3
        · rw [eO]
          intro o ho' x hx
          rcases List.mem_append.1 ho' with h | h
          · exact ok3 o h x hx
          · rw [List.mem_singleton] at h; rw [h] at hx; cases hx
      · have o3 := f3.own o2 (by decide)
        have O3 := f3.own O2 (by decide)
        have oky3 : ∀ y ∈ ys, DtOk w3 y := fun y hy => f3.dt (oky y hy) (by decide)
        have ok3 : ∀ o ∈ os, ∀ x, o = some x → DtOk w3 x := fun o ho x hx => f3.dt (ok2 o ho x hx) (by decide)
        rw [addI_i64 (by omega) (by omega), show ((t : Nat) : Int) + 1 = ((t + 1 : Nat) : Int) by omega]
        rw [show (!(some (⟨o, 0, none⟩ : Addr)).isNone) = true from rfl, BIf_true]
        rw [ho] at eO
        simp only [NN_mk, add_mk, Nat.zero_add, Int.toNat_natCast]
        refine load_any (i := 1) hnd rfl ?_
        obtain ⟨rest, hBq, hqc, hqm⟩ := o3.full
        refine Req_iff.2 ⟨by omega, Req_iff.2 ⟨rdE_one _, ?_⟩⟩
        have hol : (List.map rdE os).length = t := by rw [List.length_map]; exact hlen
        refine store_intro hBq (by simp; omega) (rdE_one _) fun w4 b4 f4 z4 => ?_
        have eset : (List.map rdE os ++ List.replicate (ys.length - t) Value.nilIface ++ rest).set t (rdE nd.e) = (List.map rdE (os ++ [nd.e]) ++ List.replicate (ys.length - (t + 1)) Value.nilIface) ++ rest := by
          rw [hrep, List.append_assoc, List.set_append_right _ _ (by omega), hol, Nat.sub_self, List.map_append]
          simp
        rw [eset] at b4
        have T4 : Tys (fun x => x = q) w3 [76] := Tys.one hBq
        have nT : ∀ b u us, b = q → Blk w3 b u us → u ≠ 2 := fun b u us hb hu e => by
          have := T4 b u us hb hu
          rw [e] at this; simp at this
        refine ⟨⟨by trivial, by trivial, by trivial, by trivial, by trivial, by trivial, by trivial, by trivial, t + 1, by trivial, hlt, by rw [eA]; exact h3.fr f4 T4 (by decide), ?_, ?_, ?_, fun y hy => (oky3 y hy).fr f4 nT, (f2.trans f3).new f4 fun b hb => by have hb : b = q := hb; omega⟩, by omega⟩
        · rw [eO]
          exact Own.mk' b4 (by simp [hlen]; omega) (by have h := hqc; simp [hlen] at h ⊢; omega) hqm
        · rw [eO]
          intro o' ho' x hx
          rcases List.mem_append.1 ho' with h | h
          · exact (ok3 o' h x hx).fr f4 nT
          · rw [List.mem_singleton] at h; rw [h] at hx
            exact (hx3 x hx).fr f4 nT
        · rw [← hp]; exact O3.fr f4 fun b hb e => by have := O.lt hb; have e : b = q := e; omega
    · rw [decide_eq_false (show ¬ ((t : Nat) : Int) < ((ys.length : Nat) : Int) by omega), BIf_false]
      have : t = ys.length := by omega
      subst this
      rw [List.take_length] at h2 o2 ok2
      rw [Nat.sub_self, List.replicate_zero, List.append_nil] at o2
      exact hk w2 _ _ h2 o2 ok2 f2
end
end Go.Proofs.YtfokodpnoiilbaaGreat.E
