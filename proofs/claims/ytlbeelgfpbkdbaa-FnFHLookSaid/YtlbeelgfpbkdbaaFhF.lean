/-
  FnFHLook.
-/
import Derived.Test.YtlbeelgfpbkdbaaFhD
namespace Go.Proofs.Ytlbeelgfpbkdbaa.E
open Go
set_option linter.unusedSimpArgs false
set_option linter.unusedVariables false
set_option maxRecDepth 100000
set_option maxHeartbeats 4000000

def lk : FS := ⟨2, 0, 0⟩
def pr2 (d : FD) : List FD := [⟨d.e, d.p, d.z + 1⟩, d]
theorem pr2_get : ∀ {ds : List FD} {i : Nat} {d : FD}, ds[i]? = some d → (ds.flatMap pr2)[2 * i]? = some ⟨d.e, d.p, d.z + 1⟩ ∧ (ds.flatMap pr2)[2 * i + 1]? = some d
  | [], _, _, h => by cases h
  | x :: ds, 0, d, h => by simp at h; subst h; exact ⟨rfl, rfl⟩
  | x :: ds, i + 1, d, h => by
    have := pr2_get (ds := ds) (i := i) (d := d) (by simpa using h)
    rw [show 2 * (i + 1) = 2 * i + 1 + 1 by omega]
    simpa [pr2] using this
theorem pr2_len (ds : List FD) : (ds.flatMap pr2).length = 2 * ds.length := by
  induction ds with
  | nil => rfl
  | cons d ds ih => rw [List.flatMap_cons, List.length_append, ih, List.length_cons]; simp [pr2]; omega
def rep : Nat → List FS
  | 0 => []
  | n + 1 => lk :: dq :: rep n
theorem rep_succ : ∀ n, rep (n + 1) = rep n ++ [lk, dq]
  | 0 => rfl
  | n + 1 => by show lk :: dq :: rep (n + 1) = (lk :: dq :: rep n) ++ [lk, dq]; rw [rep_succ n]; simp
theorem rep_len : ∀ n, (rep n).length = 2 * n
  | 0 => rfl
  | n + 1 => by simp [rep, rep_len n]; omega
theorem after_look (P : PS) : ∀ (n : Nat) {Q : List (Option Int)} {mi : Option Nat} {out : List FD}, MinAt Q mi → Q.length ≤ 800 → n = cnt Q → (∀ Q' mi' (ds : List FD), Ext (inn Q) (ds.map (·.p)) → ds.length = n → (∀ i d, ds[i]? = some d → d.z + i + 1 = n) → P Q' mi' (out ++ ds.flatMap pr2)) → After P (rep n) Q mi out
  | 0, Q, mi, out, hm, hl, hn, hk => by
    have hv : inn Q = [] := List.length_eq_zero_iff.1 (by rw [← cnt_inn, ← hn])
    have := hk Q mi [] (by rw [hv]; exact ⟨List.Perm.refl _, List.Pairwise.nil⟩) rfl (fun i d h => by cases h)
    simpa [After, rep] using this
  | n + 1, Q, mi, out, hm, hl, hn, hk => by
    refine ⟨⟨fit0, hl, .inr (.inl ⟨.inl rfl, by omega⟩)⟩, fun Q' mi' sd hst => ?_⟩
    cases hst with
    | enq a b => cases a
    | deq a b c d => cases a
    | dec a b => cases a
    | @look i0 v0 a0 b0 c0 =>
    refine ⟨⟨fit0, hl, .inr (.inl ⟨.inr rfl, by omega⟩)⟩, fun Q' mi' sd hst => ?_⟩
    cases hst with
    | enq a b => cases a
    | look a b c => cases a
    | dec a b => cases a
    | @deq i v mi' a b c d =>
      rw [b0] at b; cases b
      rw [c0] at c; cases c
      have hp := inn_set c0
      have hc : cnt (Q.set i0 none) = n := by
        have := hp.length_eq
        rw [← cnt_inn, ← hn, List.length_cons, ← cnt_inn] at this; omega
      refine after_look P n d (by simpa using hl) hc.symm fun Q2 m2 ds h2 h3 h4 => ?_
      have hmn : ∀ u ∈ inn Q, v0 ≤ u := fun u hu => by
        obtain ⟨j, hj⟩ := mem_inn.1 hu
        rcases hm with ⟨h, _⟩ | ⟨i', v', e1, e2, e3⟩
        · exact absurd hj (h j u)
        · rw [b0] at e1; cases e1
          rw [c0] at e2; cases e2
          exact e3 j u hj
      have := hk Q2 m2 (⟨i0, v0, cnt (Q.set i0 none)⟩ :: ds) (Ext.cons hp hmn h2) (by simp [h3]) fun i d hd => by
        cases i with
        | zero => simp at hd; subst hd; simp only; omega
        | succ i => have := h4 i d (by simpa using hd); omega
      have e : cnt Q = cnt (Q.set i0 none) + 1 := by omega
      rw [e]
      simpa [pr2] using this
theorem F3_J1_eq {K : W} {k : Value → W} {again : Option Addr → Nat → Nat → Option Addr → Nat → Nat → Option Addr → Nat → Nat → Int → Int → W} {w : World} {lp ap sp : Option Addr} {l lc al ac sl sc i nx ny e z : Nat} {p x43 : Int} {xb yb : Bool} {ps : List Int}
    (hx : Blk w nx 34 [.bool true, .int .i64 (e : Nat), .int .i64 p, .int .i64 (z + 1 : Nat), .bool xb]) (hy : Blk w ny 34 [.bool true, .int .i64 (e : Nat), .int .i64 p, .int .i64 (z : Nat), .bool yb]) (hA : Ints w ap ps) (hp : ps[i]? = some p) (hal : al = ps.length) (hz : z + i + 1 = l) (hl : l < 1000)
    (hk : ∀ w', Fr (fun _ => False) w w' → again lp l lc ap al ac sp sl sc x43 ((i + 1 : Nat) : Int) w') : F3_J1 k again lp l lc ap al ac sp sl sc (i : Nat) ⟨nx, 0, none⟩ ⟨ny, 0, none⟩ x43 (i : Nat) w := by
  subst hal
  have hil : i < ps.length := (List.getElem?_eq_some_iff.1 hp).1
  unfold F3_J1
  refine drw_intro fun w1 f1 z1 => ?_
  have x1 := hx.fr f1 id
  have y1 := hy.fr f1 id
  refine load_bool (i := 0) x1 rfl ?_
  simp only [Bool.not_true, BIf_false]
  refine load_bool (i := 0) y1 rfl ?_
  simp only [Bool.not_true, BIf_false]
  refine load_int (i := 2) x1 rfl (load_int (i := 2) y1 rfl ?_)
  rw [show (p != p) = false by simp]
  simp only [BIf_false]
  refine load_int (i := 1) x1 rfl (load_int (i := 1) y1 rfl ?_)
  rw [show (((e : Nat) : Int) != ((e : Nat) : Int)) = false by simp]
  simp only [BIf_false]
  obtain ⟨a, rfl, hc⟩ := hA.fr0 f1 i p hp
  refine load_int (i := 2) y1 rfl ?_
  simp only [NN_mk, Int.toNat_natCast]
  refine ⟨by omega, LoadT_int.2 ⟨_, hc, ?_⟩⟩
  rw [show (p != p) = false by simp]
  simp only [BIf_false]
  refine load_int (i := 3) x1 rfl ?_
  have e1 : subI .i64 ((l : Nat) : Int) ((i : Nat) : Int) = ((z + 1 : Nat) : Int) := by rw [subI_i64 (by omega) (by omega)]; omega
  have e2 : subI .i64 ((z + 1 : Nat) : Int) 1 = ((z : Nat) : Int) := by rw [subI_i64 (by omega) (by omega)]; omega
  rw [e1, e2]
  rw [show (((z + 1 : Nat) : Int) != ((z + 1 : Nat) : Int)) = false by simp]
  simp only [BIf_false]
  refine load_int (i := 3) y1 rfl ?_
  rw [show (((z : Nat) : Int) != ((z : Nat) : Int)) = false by simp]
  simp only [BIf_false]
  rw [add_one (by omega)]
  exact hk w1 f1
/-- FnFHLook. -/
theorem F3_spec {k : Value → W} {w : World} {p : Option Addr} {l c : Nat} {xs : List Int} (hX : Shorts w p xs) (hl : l = xs.length) (hx : Small xs)
    (hk : ∀ w', Fr (fun _ => False) w w' → k (.bool true) w') : F3 k p l c w := by
  unfold F3
  by_cases hbig : ((l : Nat) : Int) > 2147483647
  · rw [decide_eq_true hbig]; simp only [BIf_true]; exact hk _ (Fr.refl _ _)
  rw [decide_eq_false hbig]
  simp only [BIf_false]
  refine F6_call (F6_spec (back_bool ?_))
  by_cases h30 : 0 < l ∧ l ≤ 30
  rotate_left
  · rw [decide_eq_false h30]; simp only [Bool.not_false, BIf_true]; exact hk _ (Fr.refl _ _)
  rw [decide_eq_true h30]
  simp only [Bool.not_true, BIf_false]
  have hb : ∀ x ∈ xs, -1000000 ≤ x ∧ x < 1000000 := fun x h => by have := hx x h; omega
  have e0 : xs.map (· + 0) = xs := by simp
  refine F8_call (F8_spec hX hl h30.2 hx (by omega) fun p1 c1 w1 S1 N1 f1 => back_slice ?_)
  rw [e0] at S1
  refine F7_call (out_enq _ S1 rfl h30.1 h30.2 hb fun ap ac w2 o E2 l2 O2 N2 f2 => back_sb ?_)
  have f02 := f1.trans f2 fun _ h => h.elim
  refine F8_call (F8_spec (hX.fr0 f02) hl h30.2 hx (by omega) fun p3 c3 w3 S3 N3 f3 => back_slice ?_)
  rw [e0] at S3
  have f03 := f02.trans f3 fun _ h => h.elim
  have N3' : NewS w2.heap.size p3 := N3
  have A3 : Ints w3 ap o := (O2.fr f3 fun _ _ h => h).ints
  refine F3_L1_rule (fun lp ll lc ap' al ac' is9 sp sl sc x11 x12 w' => lp = p ∧ ll = l ∧ ap' = ap ∧ al = l ∧ is9 = true ∧ x11 = (l : Nat) ∧ ∃ i : Nat, x12 = i ∧ i ≤ l ∧ sl = l + 2 * i ∧ Steps w' sp (l + 2 * i) sc (enqs xs ++ rep i) ∧ NewS w2.heap.size sp ∧ Fr (fun _ => False) w2 w')
    (fun _ _ _ _ _ _ _ _ _ _ x11 x12 _ => (x11 - x12).toNat) ?_ ⟨rfl, rfl, rfl, rfl, rfl, rfl, 0, rfl, Nat.zero_le _, rfl, by simpa [rep] using S3, N3', f3⟩
  rintro lp ll lc ap' al ac' is9 sp sl sc x11 x12 wa ⟨elp, ell, eap, eal, rfl, rfl, i, rfl, hi, esl, S, N, f2a⟩
  obtain rfl := elp.symm
  obtain rfl := ell.symm
  obtain rfl := eap.symm
  obtain rfl := esl.symm
  unfold F3_L1
  by_cases hil : i < l
  · rw [decide_eq_true (by omega)]
    simp only [BIf_true]
    refine step2 (s := lk) (t := dq) fun q wb b2 fb eb => ?_
    refine steps_more (tt := [lk, dq]) (OwnN.fr S fb fun _ _ h => h) b2 rfl (by omega) fun p' c' wc oc hp' fc => ?_
    have f2b := f2a.trans fb fun _ h => h.elim
    rw [add_one (by omega)]
    refine ⟨⟨(by trivial), (by trivial), (by trivial), eal, (by trivial), (by trivial), i + 1, rfl, by omega, by omega, ?_, fun b hb => (hp' b hb).elim (N b) fun h => by have := f2b.size; omega, f2b.trans fc fun b hb => .inr (N b hb)⟩, by omega⟩
    rw [rep_succ, ← List.append_assoc]
    exact oc
  have : i = l := by omega
  subst this
  rw [decide_eq_false (by omega)]
  simp only [BIf_false]
  have hA : After (fun Q mi out => ∃ (o1 ds : List FD), out = o1 ++ ds.flatMap pr2 ∧ o1.length = i ∧ ds.length = i ∧ Ext xs (ds.map (·.p)) ∧ ∀ j d, ds[j]? = some d → d.z + j + 1 = i) (enqs xs ++ rep i) [] none [] := by
    refine After.append (after_enq _ xs min0 (fun x h => fit_small (hb x h)) (by simp; omega) fun mi' o h1 h2 => ?_)
    simp only [List.nil_append] at h1 ⊢
    refine after_look _ i h1 (by simp; omega) (by rw [cnt_inn, inn_somes]; exact hl) fun Q' mi2 ds a1 a2 a3 => ?_
    rw [inn_somes] at a1
    exact ⟨o, ds, rfl, by omega, a2, a1, a3⟩
  refine F9_call (F9_spec _ _ S (by omega) hA fun op oc wb Q mi out hQ hol O hO fb => back_slice ?_)
  obtain ⟨o1, ds, rfl, ho1, hds, hE, hz⟩ := hQ
  rw [show ((((i + 2 * i : Nat)) : Int) != ((i + 2 * i : Nat) : Int)) = false by simp]
  simp only [Bool.not_true, BIf_false]
  have f2b := f2a.trans fb fun _ h => h.elim
  have hoe : o = ds.map (·.p) := Ext.det E2 hE
  subst hoe
  refine F3_L2_rule (fun lp ll lc ap' al ac' sp sl sc x20 x21 w' => ll = i ∧ ap' = ap ∧ al = i ∧ sp = op ∧ sl = i + 2 * i ∧ x20 = (i : Nat) ∧ ∃ j : Nat, x21 = j ∧ j ≤ i ∧ Fr (fun _ => False) wb w')
    (fun _ _ _ _ _ _ _ _ _ x20 x21 _ => (x20 - x21).toNat) ?_ ⟨rfl, rfl, eal, rfl, rfl, rfl, 0, rfl, Nat.zero_le _, Fr.refl _ _⟩
  rintro lp ll lc ap' al ac' sp sl sc x20 x21 wc ⟨rfl, eap, eal', esp, rfl, rfl, j, rfl, hj, fc⟩
  obtain rfl := eap
  obtain rfl := esp.symm
  unfold F3_L2
  by_cases hjl : j < ll
  rotate_left
  · rw [decide_eq_false (by omega)]
    simp only [BIf_false]
    exact hk _ ((f02.trans f2b fun _ h => h.elim).trans fc fun _ h => h.elim)
  rw [decide_eq_true (by omega)]
  simp only [BIf_true]
  refine drw_intro fun wd fd zd => ?_
  have fbd := fc.trans fd fun _ h => h.elim
  have Od := OwnN.fr O fbd fun _ _ h => h
  have hget : ds[j]? = some (ds[j]'(by omega)) := List.getElem?_eq_getElem _
  generalize ds[j]'(by omega) = d at hget
  obtain ⟨g1, g2⟩ := pr2_get hget
  have k1 : (o1 ++ ds.flatMap pr2)[ll + 2 * j]? = some ⟨d.e, d.p, d.z + 1⟩ := by rw [List.getElem?_append_right (by omega), ho1, Nat.add_sub_cancel_left]; exact g1
  have k2 : (o1 ++ ds.flatMap pr2)[ll + 2 * j + 1]? = some d := by rw [List.getElem?_append_right (by omega), ho1, show ll + 2 * j + 1 - ll = 2 * j + 1 by omega]; exact g2
  obtain ⟨q, rfl, C1⟩ := OwnN.rec Od sdc_len (by omega) k1
  obtain ⟨_, h2, C2⟩ := OwnN.rec Od sdc_len (by omega) k2
  cases h2
  have e1 : addI .i64 ((ll : Nat) : Int) (mulI .i64 2 ((j : Nat) : Int)) = ((ll + 2 * j : Nat) : Int) := by
    rw [mulI_i64 (by omega) (by omega), addI_i64 (by omega) (by omega)]; omega
  have e2 : addI .i64 ((ll + 2 * j : Nat) : Int) 1 = ((ll + 2 * j + 1 : Nat) : Int) := add_one (by omega)
  have ca : ∀ i j, ((⟨q, 0, none⟩ : Addr).add (i * 5)).add j = ⟨q, i * 5 + j, none⟩ := fun i j => by rw [add_mk, add_mk, Nat.zero_add]
  simp only [e1, e2, NN_mk, Int.toNat_natCast, ca]
  have D1 : ∀ {w' : World} (j' : Nat), j' < 5 → Fr (fun _ => False) wd w' → w'.cell? ⟨q, (ll + 2 * j) * 5 + j', none⟩ = (sdc ⟨d.e, d.p, d.z + 1⟩)[j']? := fun j' hj' f => by
    have h := C1 j' hj'
    have hlt : j' < (sdc ⟨d.e, d.p, d.z + 1⟩).length := hj'
    rw [List.getElem?_eq_getElem hlt] at h ⊢
    rw [f.cell (cell_lt h) id]; exact h
  have D2 : ∀ {w' : World} (j' : Nat), j' < 5 → Fr (fun _ => False) wd w' → w'.cell? ⟨q, (ll + 2 * j + 1) * 5 + j', none⟩ = (sdc d)[j']? := fun j' hj' f => by
    have h := C2 j' hj'
    have hlt : j' < (sdc d).length := hj'
    rw [List.getElem?_eq_getElem hlt] at h ⊢
    rw [f.cell (cell_lt h) id]; exact h
  have r0 : Fr (fun _ => False) wd wd := Fr.refl _ _
  refine ⟨by omega, LoadT_bool.2 ⟨_, D1 0 (by omega) r0, LoadT_int.2 ⟨_, D1 1 (by omega) r0, LoadT_int.2 ⟨_, D1 2 (by omega) r0, LoadT_int.2 ⟨_, D1 3 (by omega) r0, LoadT_bool.2 ⟨_, D1 4 (by omega) r0, ?_⟩⟩⟩⟩⟩⟩
  refine ⟨by omega, LoadT_bool.2 ⟨_, D2 0 (by omega) r0, LoadT_int.2 ⟨_, D2 1 (by omega) r0, LoadT_int.2 ⟨_, D2 2 (by omega) r0, LoadT_int.2 ⟨_, D2 3 (by omega) r0, LoadT_bool.2 ⟨_, D2 4 (by omega) r0, ?_⟩⟩⟩⟩⟩⟩
  have done : ∀ (w' : World) (nx ny : Nat), Fr (fun _ => False) wd w' → Blk w' nx 34 [.bool true, .int .i64 (d.e : Nat), .int .i64 d.p, .int .i64 (d.z + 1 : Nat), .bool (decide (d.z + 1 = 0))] → Blk w' ny 34 [.bool true, .int .i64 (d.e : Nat), .int .i64 d.p, .int .i64 (d.z : Nat), .bool (decide (d.z = 0))] → F3_J1 k (fun lp' ll' lc' ap'' al' ac'' sp' sl' sc' x20' x21' w'' => (ll' = ll ∧ ap'' = ap' ∧ al' = ll ∧ sp' = some ⟨q, 0, none⟩ ∧ sl' = ll + 2 * ll ∧ x20' = (ll : Nat) ∧ ∃ j : Nat, x21' = j ∧ j ≤ ll ∧ Fr (fun _ => False) wb w'') ∧ (x20' - x21').toNat < (((ll : Nat) : Int) - ((j : Nat) : Int)).toNat) lp ll lc ap' al ac' (some ⟨q, 0, none⟩) (ll + 2 * ll) sc (j : Nat) ⟨nx, 0, none⟩ ⟨ny, 0, none⟩ (ll : Nat) (j : Nat) w' := fun w' nx ny f bx by' => by
    have AA : Ints w' ap' (ds.map (·.p)) := ((O2.fr f2b fun _ _ h => h).ints.fr0 fbd).fr0 f
    refine F3_J1_eq (K := k (.bool true)) (ps := ds.map (·.p)) bx by' AA (by rw [List.getElem?_map, hget]; rfl) (by simp; omega) (hz j d hget) (by omega) fun w'' f'' => ?_
    exact ⟨⟨rfl, rfl, eal', rfl, rfl, rfl, j + 1, rfl, by omega, (fbd.trans f fun _ h => h.elim).trans f'' fun _ h => h.elim⟩, by omega⟩
  refine Both_iff.2 ⟨?_, ?_⟩
  · refine new_intro fun n1 wf ef bf ff zf => ?_
    refine ⟨D2 0 (by omega) ff, D2 1 (by omega) ff, D2 2 (by omega) ff, D2 3 (by omega) ff, D2 4 (by omega) ff, D1 0 (by omega) ff, D1 1 (by omega) ff, D1 2 (by omega) ff, D1 3 (by omega) ff, D1 4 (by omega) ff, ?_⟩
    refine new_intro fun n2 wg eg bg fg zg => ?_
    have fdg := ff.trans fg fun _ h => h.elim
    have bfg := bf.fr fg id
    refine ⟨D2 0 (by omega) fdg, D2 1 (by omega) fdg, D2 2 (by omega) fdg, D2 3 (by omega) fdg, D2 4 (by omega) fdg, D1 0 (by omega) fdg, D1 1 (by omega) fdg, D1 2 (by omega) fdg, D1 3 (by omega) fdg, D1 4 (by omega) fdg, ?_⟩
    refine store_intro (i := 0) bfg (by simp) rfl fun wh bh fh zh => ?_
    refine store_intro (i := 1) bh (by simp) rfl fun wi bi fi zi => ?_
    refine store_intro (i := 2) bi (by simp) rfl fun wj bj fj zj => ?_
    refine store_intro (i := 3) bj (by simp) rfl fun wk bk fk zk => ?_
    refine store_intro (i := 4) bk (by simp) rfl fun wl bl fl' zl => ?_
    have fgl : Fr (fun x => x = n1) wg wl := (((fh.trans fi fun x e => .inl e).trans fj fun x e => .inl e).trans fk fun x e => .inl e).trans fl' fun x e => .inl e
    have fdl : Fr (fun _ => False) wd wl := fdg.trans fgl fun x e => .inr (by have e : x = n1 := e; omega)
    have bgl := bg.fr fgl (show ¬ n2 = n1 by omega)
    refine ⟨D2 0 (by omega) fdl, D2 1 (by omega) fdl, D2 2 (by omega) fdl, D2 3 (by omega) fdl, D2 4 (by omega) fdl, ?_⟩
    refine store_intro (i := 0) bgl (by simp) rfl fun wm bm fm zm => ?_
    refine store_intro (i := 1) bm (by simp) rfl fun wn bn fn zn => ?_
    refine store_intro (i := 2) bn (by simp) rfl fun wo bo fo zo => ?_
    refine store_intro (i := 3) bo (by simp) rfl fun wp bp fp zp => ?_
    refine store_intro (i := 4) bp (by simp) rfl fun wq bq fq zq => ?_
    have flq : Fr (fun x => x = n2) wl wq := (((fm.trans fn fun x e => .inl e).trans fo fun x e => .inl e).trans fp fun x e => .inl e).trans fq fun x e => .inl e
    exact done wq n1 n2 (fdl.trans flq fun x e => .inr (by have e : x = n2 := e; have := ff.size; omega)) (bl.fr flq (show ¬ n1 = n2 by omega)) bq
  · refine new_intro fun n1 wf ef bf ff zf => ?_
    refine ⟨D2 0 (by omega) ff, D2 1 (by omega) ff, D2 2 (by omega) ff, D2 3 (by omega) ff, D2 4 (by omega) ff, D1 0 (by omega) ff, D1 1 (by omega) ff, D1 2 (by omega) ff, D1 3 (by omega) ff, D1 4 (by omega) ff, ?_⟩
    refine new_intro fun n2 wg eg bg fg zg => ?_
    have fdg := ff.trans fg fun _ h => h.elim
    have bfg := bf.fr fg id
    refine ⟨D2 0 (by omega) fdg, D2 1 (by omega) fdg, D2 2 (by omega) fdg, D2 3 (by omega) fdg, D2 4 (by omega) fdg, D1 0 (by omega) fdg, D1 1 (by omega) fdg, D1 2 (by omega) fdg, D1 3 (by omega) fdg, D1 4 (by omega) fdg, ?_⟩
    refine store_intro (i := 0) bg (by simp) rfl fun wh bh fh zh => ?_
    refine store_intro (i := 1) bh (by simp) rfl fun wi bi fi zi => ?_
    refine store_intro (i := 2) bi (by simp) rfl fun wj bj fj zj => ?_
    refine store_intro (i := 3) bj (by simp) rfl fun wk bk fk zk => ?_
    refine store_intro (i := 4) bk (by simp) rfl fun wl bl fl' zl => ?_
    have fgl : Fr (fun x => x = n2) wg wl := (((fh.trans fi fun x e => .inl e).trans fj fun x e => .inl e).trans fk fun x e => .inl e).trans fl' fun x e => .inl e
    have fdl : Fr (fun _ => False) wd wl := fdg.trans fgl fun x e => .inr (by have e : x = n2 := e; have := ff.size; omega)
    have bgl := bfg.fr fgl (show ¬ n1 = n2 by omega)
    refine ⟨D2 0 (by omega) fdl, D2 1 (by omega) fdl, D2 2 (by omega) fdl, D2 3 (by omega) fdl, D2 4 (by omega) fdl, ?_⟩
    refine store_intro (i := 0) bgl (by simp) rfl fun wm bm fm zm => ?_
    refine store_intro (i := 1) bm (by simp) rfl fun wn bn fn zn => ?_
    refine store_intro (i := 2) bn (by simp) rfl fun wo bo fo zo => ?_
    refine store_intro (i := 3) bo (by simp) rfl fun wp bp fp zp => ?_
    refine store_intro (i := 4) bp (by simp) rfl fun wq bq fq zq => ?_
    have flq : Fr (fun x => x = n1) wl wq := (((fm.trans fn fun x e => .inl e).trans fo fun x e => .inl e).trans fp fun x e => .inl e).trans fq fun x e => .inl e
    exact done wq n2 n1 (fdl.trans flq fun x e => .inr (by have e : x = n1 := e; omega)) (bl.fr flq (show ¬ n2 = n1 by omega)) bq
end Go.Proofs.Ytlbeelgfpbkdbaa.E
