/-
  Range trees: how many entries; Add of several entries, Len, Query, by the addresses of entries.
-/
import Derived.Test.YtfokodpnoiilbaaR8
namespace Go.Proofs.Ytfokodpnoiilbaa.E
open Go
set_option linter.unusedSimpArgs false
set_option linter.unusedVariables false
set_option maxRecDepth 100000
set_option maxHeartbeats 8000000

theorem Own.n {w : World} {e : TypeId} {p : Option Addr} {l c : Nat} {vs : List Value} (h : Own w e p l c vs) : OwnN w e 1 p l c vs := by
  refine ⟨by rw [h.1, Nat.mul_one], ?_⟩
  rcases h.2 with h' | ⟨q, rest, h1, h2, h3, h4⟩
  · exact .inl h'
  · refine .inr ⟨q, rest, h1, h2, by omega, ?_, h4⟩
    have := h.1
    rw [← h3, List.length_append]; omega
theorem OwnN.one {w : World} {e : TypeId} {p : Option Addr} {l c : Nat} {vs : List Value} (h : OwnN w e 1 p l c vs) : Own w e p l c vs := by
  refine ⟨by have := h.1; omega, ?_⟩
  rcases h.2 with h' | ⟨q, rest, h1, h2, h3, h4, h5⟩
  · exact .inl h'
  · exact .inr ⟨q, rest, h1, h2, by omega, h5⟩
/-! ## Plain: how many -/
section
variable {α : Type}
def szN (n : Nat) (L : ON α n) : Nat := (fltK n L).length
theorem szN_succ (n : Nat) (L : ON α (n + 1)) : szN (n + 1) L = ((L : List (Int × ON α n)).map fun p => szN n p.2).sum := by
  show (List.flatMap _ _).length = _
  rw [List.length_flatMap]
  congr 1
  exact List.map_congr_left fun p _ => by rw [List.length_map]; rfl
theorem sz_ins {β : Type} {g : β → Nat} {v : Int} {f : β → β} {x0 : β} : ∀ {L : List (Int × β)}, L.Pairwise (fun p q => p.1 < q.1) →
    ((insL v f x0 L).map fun p => g p.2).sum + (match lkp v L with | none => 0 | some x => g x) = (L.map fun p => g p.2).sum + (match lkp v L with | none => g x0 | some x => g (f x))
  | [], _ => by simp [insL, lkp]
  | p :: L, h => by
    obtain ⟨h1, h2⟩ := List.pairwise_cons.1 h
    have ih := sz_ins (g := g) (v := v) (f := f) (x0 := x0) h2
    unfold insL
    by_cases hlt : p.1 < v
    · have e : lkp v (p :: L) = lkp v L := by show (if p.1 = v then _ else _) = _; rw [if_neg (by omega)]
      rw [if_pos hlt, e]
      simp only [List.map_cons, List.sum_cons]
      omega
    · rw [if_neg hlt]
      by_cases e : p.1 = v
      · have e1 : lkp v (p :: L) = some p.2 := by show (if p.1 = v then _ else _) = _; rw [if_pos e]
        rw [if_pos e, e1]
        simp only [List.map_cons, List.sum_cons]
        omega
      · have e1 : lkp v (p :: L) = none := by
          show (if p.1 = v then _ else _) = _
          rw [if_neg e]
          exact lkp_gt fun q hq => by have := h1 q hq; omega
        rw [if_neg e, e1]
        simp only [List.map_cons, List.sum_cons]
        omega
theorem lkp_srt {β : Type} {Q : β → Prop} {v : Int} {x : β} {L : List (Int × β)} (hs : L.Pairwise (fun p q => p.1 < q.1)) (h : ∀ p ∈ L, Q p.2) (hx : lkp v L = some x) : Q x := h _ ((lkp_mem hs).1 hx)
theorem szN_new : ∀ (n : Nat) (k : List Int) (e : α), k.length = n → szN n (newON n k e) = 1
  | 0, _, _, _ => rfl
  | n + 1, v :: vs, e, h => by
    rw [szN_succ]
    show szN n (newON n vs e) + 0 = 1
    rw [szN_new n vs e (by simpa using h)]
theorem szN_add : ∀ (n : Nat) (L : ON α n) (k : List Int) (e : α), SrtN n L → k.length = n → szN n (addON n L k e) = szN n L + if (getON n L k).isNone = true then 1 else 0
  | 0, x, [], e, _, _ => rfl
  | n + 1, L, v :: vs, e, ⟨h1, h2⟩, h => by
    have hl : vs.length = n := by simpa using h
    have := sz_ins (g := szN n) (v := v) (f := fun x => addON n x vs e) (x0 := newON n vs e) h1
    rw [szN_succ, szN_succ]
    show ((insL v (fun x => addON n x vs e) (newON n vs e) L).map fun p => szN n p.2).sum = _ + if (((lkp v (L : List (Int × ON α n))).bind fun x => getON n x vs).isNone) = true then 1 else 0
    cases hk : lkp v (L : List (Int × ON α n)) with
    | none =>
      rw [hk] at this
      simp only [Option.bind_none, Option.isNone_none, if_true]
      rw [szN_new n vs e hl] at this
      simpa using this
    | some x =>
      rw [hk] at this
      have hx : SrtN n x := lkp_srt (Q := SrtN n) h1 h2 hk
      have ih := szN_add n x vs e hx hl
      simp only [Option.bind_some]
      have this : ((insL v (fun x => addON n x vs e) (newON n vs e) L).map fun p => szN n p.2).sum + szN n x = (List.map (fun p : Int × ON α n => szN n p.2) L).sum + szN n (addON n x vs e) := this
      omega
end
/-! ## Entries -/
def addE (dm : Nat) (L : ON (Option Dtn) dm) (e : Dtn) : ON (Option Dtn) dm := addON dm L (kyD e dm 1) (some e)
def oldE (dm : Nat) (L : ON (Option Dtn) dm) (e : Dtn) : Option Dtn := (getON dm L (kyD e dm 1)).getD none
def addsE (dm : Nat) (L : ON (Option Dtn) dm) (ys : List Dtn) : ON (Option Dtn) dm := ys.foldl (addE dm) L
def oldsE (dm : Nat) : ON (Option Dtn) dm → List Dtn → List (Option Dtn)
  | _, [] => []
  | L, e :: ys => oldE dm L e :: oldsE dm (addE dm L e) ys
theorem addsE_snoc (dm : Nat) (L : ON (Option Dtn) dm) (ys : List Dtn) (e : Dtn) : addsE dm L (ys ++ [e]) = addE dm (addsE dm L ys) e := by unfold addsE; rw [List.foldl_append]; rfl
theorem oldsE_snoc (dm : Nat) : ∀ (ys : List Dtn) (L : ON (Option Dtn) dm) (e : Dtn), oldsE dm L (ys ++ [e]) = oldsE dm L ys ++ [oldE dm (addsE dm L ys) e]
  | [], L, e => rfl
  | y :: ys, L, e => by
    show oldE dm L y :: oldsE dm (addE dm L y) (ys ++ [e]) = _
    rw [oldsE_snoc dm ys]; rfl
theorem oldsE_length (dm : Nat) : ∀ (ys : List Dtn) (L : ON (Option Dtn) dm), (oldsE dm L ys).length = ys.length
  | [], L => rfl
  | y :: ys, L => by show (oldsE dm _ ys).length + 1 = _; rw [oldsE_length dm ys]; rfl
def TrR (w : World) (base tb dm B : Nat) (L : ON (Option Dtn) dm) : Prop := ∃ D s pp pl pc, RM w base tb (szN dm L) dm pp pl pc D s ∧ RIn tb B dm tb D s ∧ absN dm s tb = L ∧ szN dm L ≤ B
theorem TrR.fr {w w' : World} {S : Nat → Prop} {base tb dm B : Nat} {L : ON (Option Dtn) dm} {ts : List TypeId} (h : TrR w base tb dm B L) (f : Fr S w w') (hT : Tys S w ts) (ht : ∀ u ∈ ts, u ≠ 224 ∧ u ≠ 188 ∧ u ≠ 221 ∧ u ≠ 2) : TrR w' base tb dm B L := by
  obtain ⟨D, s, pp, pl, pc, h1, h2, h3, h4⟩ := h
  exact ⟨D, s, pp, pl, pc, h1.fr f fun b u us hb hu => ht u (hT b u us hb hu), h2, h3, h4⟩
theorem TrR.fr0 {w w' : World} {base tb dm B : Nat} {L : ON (Option Dtn) dm} (h : TrR w base tb dm B L) (f : Fr (fun _ => False) w w') : TrR w' base tb dm B L := h.fr f (Tys.none w) fun u hu => by cases hu
theorem und143 : Try.prog.underlying 143 = some (.slice 153) := by kernel_rfl
theorem und144 : Try.prog.underlying 144 = some (.slice 153) := by kernel_rfl
theorem inf153 : ∃ i, Try.prog.info? 153 = some i ∧ i.zero = some .nilIface ∧ i.size = 1 ∧ i.bytes ≤ 4096 := ⟨_, rfl, by kernel_rfl, by kernel_rfl, Nat.le_of_ble_eq_true (by kernel_rfl)⟩
theorem rdE_one (o : Option Dtn) : oneC (rdE o) = true := by cases o <;> rfl
theorem rdE_one' (o : Option Dtn) : (rdE o).oneCell' = true := by cases o <;> rfl
theorem rdE_cells (o : Option Dtn) : (rdE o).cells = #[rdE o] := by cases o <;> rfl
theorem build1 {P : Program} {t e : TypeId} {i : TypeInfo} {z : Value} {f : Option Addr → Nat → Nat → W} {w : World} {v : Value}
    (ht : P.underlying t = some (.slice e)) (hi : P.info? e = some i) (hz : i.zero = some z) (h1 : i.size = 1) (hzc : z.cells = #[z]) (hvc : v.cells = #[v])
    (hk : ∀ w', Fr (fun _ => False) w w' → Blk w' w.heap.size e [v] → w'.heap.size = w.heap.size + 1 → f (some ⟨w.heap.size, 0, none⟩) 1 1 w') :
    RawT P (Instr.buildSlice t 1 [(0, v)].toArray) (.s (.one .slice)) f w := by
  have hr : (Instr.buildSlice t 1 [(0, v)].toArray).run P w = .ok (.slice (some ⟨w.heap.size, 0, none⟩) 1 1) (w.alloc (.cells #[v] e)) := by
    simp [Instr.buildSlice, run_underlying ht, sizeOf, typeInfo, hi, h1, zeroValue, hz, hzc, Instr.fill, newRow, hvc]
    have hx : (Array.map (fun x => [z][x % 1]?.getD default) (Array.range 1)).setIfInBounds 0 v = #[v] := by
      apply Array.ext
      · simp
      · intro j h1 h2
        have hj : j = 0 := by simpa using h2
        subst hj
        simp
    rw [hx]
  exact RawT_slice hr (hk _ (Fr.alloc _ _ _) (Blk.new _ _ _) (by simp))
section
variable {w : World} {k : Value → W} {base tb dm B : Nat} {L : ON (Option Dtn) dm}
/-- Add. -/
theorem F110_spec {ys : List Dtn} {p : Option Addr} {c : Nat} (h : TrR w base tb dm B L) (O : Own w 153 p ys.length c (ys.map Dtn.v)) (ok : ∀ y ∈ ys, DtOk w y) (hd1 : 1 ≤ dm) (hdm : dm < 1000) (hB : B + ys.length < 90000)
    (hk : ∀ w' p' c', TrR w' base tb dm (B + ys.length) (addsE dm L ys) → Own w' 153 p' ys.length c' ((oldsE dm L ys).map rdE) → (∀ o ∈ oldsE dm L ys, ∀ x, o = some x → DtOk w' x) → Fy base w w' → k (.slice p' ys.length c') w') :
    F110 k (some ⟨tb, 0, none⟩) p ys.length c w := by
  unfold F110
  cases ys with
  | nil =>
    rw [show (((([] : List Dtn).length : Nat) : Int) == 0) = true from rfl, BIf_true]
    exact hk w none 0 h (Own.nil _ _) (fun o ho => by cases ho) (.of0 (Fr.refl _ _))
  | cons y0 ys0 =>
    generalize hys : y0 :: ys0 = ys at *
    have hpos : 0 < ys.length := by rw [← hys]; simp
    rw [show (((ys.length : Nat) : Int) == 0) = false from beq_eq_false_iff_ne.2 (by omega), BIf_false]
    obtain ⟨ie, g1, g2, g3, g4⟩ := inf153
    refine make_intro ys.length ys.length und144 g1 g2 g3 rfl (by omega) (by omega) (Nat.le_refl _) fun w1 f1 o1 b1 z1 => ?_
    have hq := z1
    generalize hqq : w.heap.size = q at o1 b1
    refine F110_L1_rule (I := fun ot op ol oc sp sl sc n i w' => ot = some ⟨tb, 0, none⟩ ∧ op = some ⟨q, 0, none⟩ ∧ ol = ys.length ∧ oc = ys.length ∧ sp = p ∧ sl = ys.length ∧ sc = c ∧ n = ((ys.length : Nat) : Int) ∧ ∃ t : Nat, i = ((t : Nat) : Int) ∧ t ≤ ys.length ∧ TrR w' base tb dm (B + t) (addsE dm L (ys.take t)) ∧ Own w' 153 (some ⟨q, 0, none⟩) ys.length ys.length ((oldsE dm L (ys.take t)).map rdE ++ List.replicate (ys.length - t) .nilIface) ∧ (∀ o ∈ oldsE dm L (ys.take t), ∀ x, o = some x → DtOk w' x) ∧ Own w' 153 p ys.length c (ys.map Dtn.v) ∧ (∀ y ∈ ys, DtOk w' y) ∧ Fy base w w')
      (μ := fun ot op ol oc sp sl sc n i w' => ys.length - i.toNat) ?_ ⟨rfl, rfl, rfl, rfl, rfl, rfl, rfl, rfl, 0, rfl, Nat.zero_le _, h.fr0 f1, o1, (fun o ho => by cases ho), O.fr f1 fun _ _ => id, fun y hy => (ok y hy).fr0 f1, .of0 f1⟩
    rintro ot op ol oc sp sl sc n i w2 ⟨e1, e2, e3, e4, e5, e6, e7, rfl, t, rfl, ht, h2, o2, ok2, O2, oky, f2⟩
    obtain rfl := e7.symm
    obtain rfl := e5.symm
    unfold F110_L1
    rw [e1, e2, e3, e4, e6]
    by_cases hlt : t < ys.length
    · rw [decide_eq_true (show ((t : Nat) : Int) < ((ys.length : Nat) : Int) by omega), BIf_true]
      have hy : ys[t]? = some ys[t] := List.getElem?_eq_getElem hlt
      have hmem : ys[t] ∈ ys := List.getElem_mem hlt
      generalize ys[t] = y at hy hmem
      obtain ⟨q2, rest2, hp, hB2, _, _⟩ := O2.get (by omega)
      have hsn : ys.take (t + 1) = ys.take t ++ [y] := take_snoc hy
      have eA : addsE dm L (ys.take (t + 1)) = addE dm (addsE dm L (ys.take t)) y := by rw [hsn, addsE_snoc]
      have eO : oldsE dm L (ys.take (t + 1)) = oldsE dm L (ys.take t) ++ [oldE dm (addsE dm L (ys.take t)) y] := by rw [hsn, oldsE_snoc]
      generalize addsE dm L (ys.take t) = Lt at h2 eA eO
      have hlen : (oldsE dm L (ys.take t)).length = t := by rw [oldsE_length, List.length_take]; omega
      generalize oldsE dm L (ys.take t) = os at o2 ok2 eO hlen
      rw [hp, NN_mk, Req_iff, Int.toNat_natCast, add_mk, Nat.zero_add]
      refine ⟨by omega, load_any (v := y.v) hB2 (by rw [List.getElem?_append_left (by simpa using hlt), List.getElem?_map, hy]; rfl) ?_⟩
      rw [show y.v = Value.iface 192 y.a from rfl, IfaceNil_iface, BIf_false, show Value.iface 192 y.a = y.v from rfl]
      obtain ⟨D, s, pp, pl, pc, r1, r2, r3, r4⟩ := h2
      have hrep : List.replicate (ys.length - t) Value.nilIface = Value.nilIface :: List.replicate (ys.length - (t + 1)) Value.nilIface := by
        rw [show ys.length - t = (ys.length - (t + 1)) + 1 by omega, List.replicate_succ]
      have hqlt : w.heap.size ≤ q := by omega
      have hmu : ys.length - (((t : Nat) : Int) + 1).toNat < ys.length - ((t : Nat) : Int).toNat := by omega
      refine F118_call (F118_spec r1 r2 (oky y hmem) hd1 hdm (by omega) (by omega) fun w3 s3 D3 r hp3 h3 f3 => back_ptr ?_)
      have hkl : (kyD y dm 1).length = dm := kyD_len y dm 1
      have hA : absN dm s3 tb = addE dm Lt y := by rw [hp3.ab, r3]; rfl
      have hsz : szN dm (addE dm Lt y) = szN dm Lt + if (getON dm Lt (kyD y dm 1)).isNone = true then 1 else 0 := szN_add dm Lt _ _ (r3 ▸ r2.sr) hkl
      have hnum : szN dm Lt + (if r = none then 1 else 0) = szN dm (addE dm Lt y) := by
        rw [hsz]
        cases r with
        | none => rw [← r3, hp3.r1 rfl]; rfl
        | some o => rw [← r3, (hp3.r2 o rfl).2]; rfl
      have hin : RIn tb (B + (t + 1)) dm tb D3 s3 := ⟨.inl rfl, hp3.nd, by rw [hA]; exact srt_add dm Lt _ _ (r3 ▸ r2.sr), fun b hb => by have := hp3.b1 b hb; omega, fun b hb => by
        have hbD : b = tb ∨ b ∈ D3 := by
          rcases List.mem_cons.1 hb with e | hb
          · exact .inl e
          · exact .inr (rch_D dm h3 (.inl rfl) b hb)
        have := hp3.b1 b hbD; omega⟩
      rw [hnum] at h3
      have h3' : TrR w3 base tb dm (B + (t + 1)) (addE dm Lt y) := ⟨D3, s3, pp, pl, pc, h3, hin, hA, by rw [hsz]; split <;> omega⟩
      have o3 := f3.own o2 (by decide)
      have O3 := f3.own O2 (by decide)
      have oky3 : ∀ y ∈ ys, DtOk w3 y := fun y hy => f3.dt (oky y hy)
      have ok3 : ∀ o ∈ os, ∀ x, o = some x → DtOk w3 x := fun o ho x hx => f3.dt (ok2 o ho x hx)
      rw [addI_i64 (by omega) (by omega), show ((t : Nat) : Int) + 1 = ((t + 1 : Nat) : Int) by omega]
      cases r with
      | none =>
        rw [show (!(Option.map (fun o : Nat => (⟨o, 0, none⟩ : Addr)) none).isNone) = false from rfl, BIf_false]
        have ho : oldE dm Lt y = none := by unfold oldE; rw [← r3, hp3.r1 rfl]; rfl
        rw [ho] at eO
        refine ⟨⟨by trivial, by trivial, by trivial, by trivial, rfl, by trivial, by trivial, by trivial, t + 1, by trivial, hlt, by rw [eA]; exact h3', ?_, ?_, by rw [← hp]; exact O3, oky3, f2.trans f3⟩, by omega⟩
        · rw [eO, List.map_append, List.append_assoc]
          rw [hrep] at o3
          exact o3
        · rw [eO]
          intro o ho' x hx
          rcases List.mem_append.1 ho' with h | h
          · exact ok3 o h x hx
          · rw [List.mem_singleton] at h; rw [h] at hx; cases hx
      | some o =>
        rw [show (!(Option.map (fun o : Nat => (⟨o, 0, none⟩ : Addr)) (some o)).isNone) = true from rfl, BIf_true]
        obtain ⟨hoD, hoG⟩ := hp3.r2 o rfl
        have ho : oldE dm Lt y = (s3 o).e := by unfold oldE; rw [← r3, hoG]; rfl
        rw [ho] at eO
        simp only [Option.map_some, NN_mk, add_mk, Nat.zero_add, Int.toNat_natCast]
        refine load_any (i := 1) (h3.nodes o hoD) rfl ?_
        obtain ⟨rest, hBq, hqc, hqm⟩ := o3.full
        refine Req_iff.2 ⟨by omega, Req_iff.2 ⟨rdE_one _, ?_⟩⟩
        have hol : (List.map rdE os).length = t := by rw [List.length_map]; exact hlen
        refine store_intro hBq (by simp; omega) (rdE_one _) fun w4 b4 f4 z4 => ?_
        have eset : (List.map rdE os ++ List.replicate (ys.length - t) Value.nilIface ++ rest).set t (rdE (s3 o).e) = (List.map rdE (os ++ [(s3 o).e]) ++ List.replicate (ys.length - (t + 1)) Value.nilIface) ++ rest := by
          rw [hrep, List.append_assoc, List.set_append_right _ _ (by omega), hol, Nat.sub_self, List.map_append]
          simp
        rw [eset] at b4
        have T4 : Tys (fun x => x = q) w3 [153] := Tys.one hBq
        have nT : ∀ b u us, b = q → Blk w3 b u us → u ≠ 2 := fun b u us hb hu e => by
          have := T4 b u us hb hu
          rw [e] at this; simp at this
        refine ⟨⟨by trivial, by trivial, by trivial, by trivial, by trivial, by trivial, by trivial, by trivial, t + 1, by trivial, hlt, by rw [eA]; exact h3'.fr f4 T4 (by decide), ?_, ?_, ?_, fun y hy => (oky3 y hy).fr f4 nT, (f2.trans f3).new f4 fun b hb => by have hb : b = q := hb; omega⟩, by omega⟩
        · rw [eO]
          exact Own.mk' b4 (by simp [hlen]; omega) (by have h := hqc; simp [hlen] at h ⊢; omega) hqm
        · rw [eO]
          intro o' ho' x hx
          rcases List.mem_append.1 ho' with h | h
          · exact (ok3 o' h x hx).fr f4 nT
          · rw [List.mem_singleton] at h; rw [h] at hx
            exact (h3.ok o hoD x hx).fr f4 nT
        · rw [← hp]; exact O3.fr f4 fun b hb e => by have := O.lt hb; have e : b = q := e; omega
    · rw [decide_eq_false (show ¬ ((t : Nat) : Int) < ((ys.length : Nat) : Int) by omega), BIf_false]
      have : t = ys.length := by omega
      subst this
      rw [List.take_length] at h2 o2 ok2
      rw [Nat.sub_self, List.replicate_zero, List.append_nil] at o2
      exact hk w2 _ _ h2 o2 ok2 f2
end
end Go.Proofs.Ytfokodpnoiilbaa.E
