/-
  Range trees of skip lists: what the statements ask of an answer (srAsked, rtSays).
-/
import Derived.Test.YtfokodpnoiilbaaQQ
import Derived.Test.YtfokodpnoiilbaaRH
namespace Go.Proofs.Ytfokodpnoiilbaa.E
open Go
set_option linter.unusedSimpArgs false
set_option linter.unusedVariables false
set_option maxRecDepth 100000
set_option maxHeartbeats 8000000

/-! ## Plain -/
theorem olds_get (dm : Nat) : ∀ (xs : List PD) (M : OP dm) (t : Nat) (x : PD), xs[t]? = some x → (oldsP dm M xs)[t]? = some (oldP dm (addsP dm M (xs.take t)) x)
  | [], M, t, x, h => by simp at h
  | y :: xs, M, 0, x, h => by simp at h; subst h; rfl
  | y :: xs, M, t + 1, x, h => by
    show (oldsP dm (addP dm M y) xs)[t]? = _
    rw [olds_get dm xs (addP dm M y) t x (by simpa using h)]; rfl
theorem addsP_snoc (dm : Nat) (M : OP dm) (xs : List PD) (x : PD) : addsP dm M (xs ++ [x]) = addP dm (addsP dm M xs) x := by unfold addsP; rw [List.foldl_append]; rfl
/-- The tree, the list behind some entries of a step. -/
def MAt (dm : Nat) (M : OP dm) (s : DStp) (t : Nat) : OP dm := if s.op = 1 then addsP dm M (s.dots.take t) else M
def nowAt (now : List PD) (s : DStp) (t : Nat) : List PD := if s.op = 1 then putsP now (s.dots.take t) else now
/-- What a step answers, entry by entry. -/
def oldsA (dm : Nat) (M : OP dm) (s : DStp) : List (Option PD) := if s.op = 1 then oldsP dm M s.dots else s.dots.map (oldP dm M)
theorem oldsA_get {dm : Nat} {M : OP dm} {now : List PD} {s : DStp} {t : Nat} {x : PD} (h : Same dm (MAt dm M s t) (nowAt now s t)) (hx : s.dots[t]? = some x) (hl : x.1.length = dm) : (oldsA dm M s)[t]? = some (fndP x.1 (nowAt now s t)) := by
  rw [← (h.add hl).2]
  unfold oldsA MAt
  by_cases ho : s.op = 1
  · rw [if_pos ho, if_pos ho]; exact olds_get dm s.dots M t x hx
  · rw [if_neg ho, if_neg ho, List.getElem?_map, hx]; rfl
theorem same_next {dm : Nat} {M : OP dm} {now : List PD} {s : DStp} {t : Nat} {x : PD} (h : Same dm (MAt dm M s t) (nowAt now s t)) (hx : s.dots[t]? = some x) (hl : x.1.length = dm) : Same dm (MAt dm M s (t + 1)) (nowAt now s (t + 1)) := by
  by_cases ho : s.op = 1
  · have e1 : MAt dm M s (t + 1) = addP dm (MAt dm M s t) x := by unfold MAt; rw [if_pos ho, if_pos ho, take_snoc hx, addsP_snoc]
    have e2 : nowAt now s (t + 1) = insP (nowAt now s t) x := by unfold nowAt; rw [if_pos ho, if_pos ho, take_snoc hx, putsP_snoc]
    rw [e1, e2]
    exact (h.add hl).1
  · have e1 : MAt dm M s (t + 1) = MAt dm M s t := by unfold MAt; rw [if_neg ho, if_neg ho]
    have e2 : nowAt now s (t + 1) = nowAt now s t := by unfold nowAt; rw [if_neg ho, if_neg ho]
    rw [e1, e2]; exact h
theorem oldsA_len (dm : Nat) (M : OP dm) (s : DStp) : (oldsA dm M s).length = s.dots.length := by
  unfold oldsA; split
  · exact olds_len dm _ _
  · exact List.length_map _
section
variable {w : World} {k : Value → W}
/-- rtLess. -/
theorem F63_spec {l : List Int} {p : Option Addr} {c : Nat} (hS : Sl In64K w p l) (hl : l.length < 1000) (hk : ∀ w' p' c' l', l'.length = l.length → Sl In64K w' p' l' → Fr (fun _ => False) w w' → k (.slice p' l.length c') w') : F63 k p l.length c 1 w := by
  unfold F63
  refine F63_L1_rule (I := fun ap al ac b op ol oc i w' => ap = p ∧ al = l.length ∧ b = 1 ∧ ∃ (t : Nat) (l' : List Int), i = ((t : Nat) : Int) ∧ t ≤ l.length ∧ ol = t ∧ l'.length = t ∧ SlO In64K w' op t oc l' ∧ (∀ b, bl op b → w.heap.size ≤ b) ∧ Fr (fun _ => False) w w')
    (μ := fun ap al ac b op ol oc i w' => l.length - i.toNat) ?_ ⟨rfl, rfl, rfl, 0, [], rfl, Nat.zero_le _, rfl, rfl, SlO.nil _ _, (fun b ⟨_, h, _⟩ => by cases h), Fr.refl _ _⟩
  rintro ap al ac b op ol oc i w1 ⟨e1, e2, e3, t, l', rfl, ht, e4, hl', O, hp, f1⟩
  unfold F63_L1
  rw [e1, e2, e3, e4]
  by_cases hlt : t < l.length
  · rw [decide_eq_true (show ((t : Nat) : Int) < ((l.length : Nat) : Int) by omega), BIf_true]
    have hx : l[t]? = some l[t] := List.getElem?_eq_getElem hlt
    generalize l[t] = x at hx
    obtain ⟨qa, oa, epa, ca⟩ := sl64_get (hS.fr0 f1) hx
    rw [epa]
    simp only [NN_mk, Int.toNat_natCast, add_mk]
    refine Req_iff.2 ⟨by omega, LoadT_int.2 ⟨_, ca, ?_⟩⟩
    generalize subI .i64 x 1 = v
    refine bld_i64 fun nb w2 e5 b2 f2 z2 => ?_
    refine app_i64 (O.fr0 f2) b2 (by omega) fun p' c' w3 f3 O3 hp3 => ?_
    have z1 := f1.size
    rw [addI_i64 (by omega) (by omega)]
    refine ⟨⟨by trivial, by trivial, by trivial, t + 1, l' ++ [v], by omega, hlt, by trivial, by simp [hl'], O3, fun b hb => ?_, (f1.trans f2 fun _ h => h.elim).trans f3 fun b hb => .inr (hp b hb)⟩, ?_⟩
    · rcases hp3 b hb with h | h
      · exact hp b h
      · omega
    · show l.length - (((t : Nat) : Int) + 1).toNat < l.length - ((t : Nat) : Int).toNat
      omega
  · rw [decide_eq_false (show ¬ ((t : Nat) : Int) < ((l.length : Nat) : Int) by omega), BIf_false]
    have : t = l.length := by omega
    subst this
    exact hk w1 op oc l' hl' O.sl f1
/-- srAsked. -/
theorem F28_spec {op on dim idx num most : Int} {p : Option Addr} {l c : Nat} {pl : Option Addr} {ll cl : Nat} {hi : List Int} {ph : Option Addr} {ch : Nat} (hS : Sl In64K w ph hi) (hl : hi.length < 1000)
    (hk : ∀ w' ph' ch', Fr (fun _ => False) w w' → k (.agg #[.int .i64 op, .int .i64 on, .slice p l c, .slice pl ll cl, .slice ph' hi.length ch', .int .u64 dim, .int .i64 idx, .int .i64 num, .int .i64 most]) w') :
    F28 k op on p l c pl ll cl ph hi.length ch dim idx num most w := by
  unfold F28
  refine new_intro fun n10 w1 e1 b1 f1 z1 => new_intro fun n11 w2 e2 b2 f2 z2 => ?_
  have b1 := b1.fr f2 id
  have f02 := f1.trans f2 fun _ h => h.elim
  refine load_slice (i := 4) b1 rfl ?_
  refine F63_call (F63_spec (hS.fr0 f02) hl fun w3 p3 c3 l3 _ _ f3 => back_slice ?_)
  have b1 := b1.fr f3 id
  have b2 := b2.fr f3 id
  refine store_intro (i := 4) b1 (by simp) rfl fun w4 b4 f4 z4 => ?_
  have b4 : Blk w4 n10 49 [.int .i64 op, .int .i64 on, .slice p l c, .slice pl ll cl, .slice p3 hi.length c3, .int .u64 dim, .int .i64 idx, .int .i64 num, .int .i64 most] := b4
  have b2 := b2.fr f4 (fun e => by omega)
  refine load_int (i := 0) b4 rfl (load_int (i := 1) b4 rfl (load_slice (i := 2) b4 rfl (load_slice (i := 3) b4 rfl (load_slice (i := 4) b4 rfl (load_int (i := 5) b4 rfl (load_int (i := 6) b4 rfl (load_int (i := 7) b4 rfl (load_int (i := 8) b4 rfl ?_))))))))
  refine store_intro (i := 0) b2 (by simp) rfl fun w5 b5 f5 z5 => ?_
  refine store_intro (i := 1) b5 (by simp) rfl fun w6 b6 f6 z6 => ?_
  refine store_intro (i := 2) b6 (by simp) rfl fun w7 b7 f7 z7 => ?_
  refine store_intro (i := 3) b7 (by simp) rfl fun w8 b8 f8 z8 => ?_
  refine store_intro (i := 4) b8 (by simp) rfl fun w9 b9 f9 z9 => ?_
  refine store_intro (i := 5) b9 (by simp) rfl fun wa ba fa za => ?_
  refine store_intro (i := 6) ba (by simp) rfl fun wb bb fb zb => ?_
  refine store_intro (i := 7) bb (by simp) rfl fun wc bc fc zc => ?_
  refine store_intro (i := 8) bc (by simp) rfl fun wd bd fd zd => ?_
  have bd : Blk wd n11 49 [.int .i64 op, .int .i64 on, .slice p l c, .slice pl ll cl, .slice p3 hi.length c3, .int .u64 dim, .int .i64 idx, .int .i64 num, .int .i64 most] := bd
  refine load_int (i := 0) bd rfl (load_int (i := 1) bd rfl (load_slice (i := 2) bd rfl (load_slice (i := 3) bd rfl (load_slice (i := 4) bd rfl (load_int (i := 5) bd rfl (load_int (i := 6) bd rfl (load_int (i := 7) bd rfl (load_int (i := 8) bd rfl ?_))))))))
  have i : ∀ x, x = n11 → x = n11 ∨ w4.heap.size ≤ x := fun _ h => .inl h
  have f4d : Fr (fun b => b = n11) w4 wd := (((((((f5.trans f6 i).trans f7 i).trans f8 i).trans f9 i).trans fa i).trans fb i).trans fc i).trans fd i
  exact hk wd p3 c3 (((f02.trans f3 fun _ h => h.elim).trans f4 fun b hb => .inr (by have hb : b = n10 := hb; omega)).trans f4d fun b hb => .inr (by have hb : b = n11 := hb; omega))
theorem slb_get {p : Option Addr} {l : List Bool} (h : Sl BoK w p l) {i : Nat} {x : Bool} (hx : l[i]? = some x) : ∃ q o, p = some ⟨q, o, none⟩ ∧ w.cell? ⟨q, o + i, none⟩ = some (.bool x) := by
  obtain ⟨q, o, rfl, g0⟩ := h.get hx
  refine ⟨q, o, rfl, ?_⟩
  have : w.cell? ⟨q, o + i * 1 + 0, none⟩ = some (.bool x) := g0
  rw [show o + i * 1 + 0 = o + i by omega] at this; exact this
theorem back_slb {f : Option Addr → Nat → Nat → Bool → W} {p : Option Addr} {l c : Nat} {b : Bool} (h : f p l c b w) : Back (.tup [(.one .slice), (.one .bool)]) f (.returned (.tuple #[.slice p l c, .bool b])) w := ⟨((p, l, c), b, ()), rfl, h⟩
/-- rtSays: what is answered is right. -/
theorem F27_spec {dm : Nat} {M : OP dm} {now : List PD} {s : DStp} {np dp gp hp lp' hp' : Option Addr} {nc dc gc hc lc ll hl' hc' : Nat} {on dim idx num most : Int} (hsame : Same dm M now) (hN : Lp w np nc now) (hnl : now.length + s.dots.length < 100000) (hdm : dm < 900)
    (hD : Sl (DoK 87) w dp s.dots) (hdl : ∀ x ∈ s.dots, x.1.length = dm) (hG : Sl (DoK 87) w gp (stepSA dm M s).dots) (hH : Sl BoK w hp (stepSA dm M s).is) (hop : s.op = 1 ∨ s.op = 3 ∨ s.op = 6)
    (hk : ∀ w' p' c' now', Same dm (stepSM dm M s) now' → Lp w' p' c' now' → now'.length ≤ now.length + s.dots.length → Fr (fun _ => False) w w' → k (.tuple #[.slice p' now'.length c', .bool true]) w') :
    F27 k np now.length nc s.op on dp s.dots.length dc lp' ll lc hp' hl' hc' dim idx num most gp (stepSA dm M s).dots.length gc hp (stepSA dm M s).is.length hc none 0 0 (((stepSA dm M s).n : Nat) : Int) w := by
  unfold F27
  refine new_intro fun n15 w1 e1 b1 f1 z1 => new_intro fun n16 w2 e2 b2 f2 z2 => ?_
  have b1 := b1.fr f2 id
  have f02 := f1.trans f2 fun _ h => h.elim
  refine load_int (i := 0) b1 rfl ?_
  by_cases h6 : s.op = 6
  · have eM : stepSM dm M s = M := if_neg (by omega)
    have eA : stepSA dm M s = ⟨[], [], szN dm M⟩ := by unfold stepSA; rw [if_neg (by omega), if_neg (by omega)]
    rw [show (s.op == 1) = false from beq_eq_false_iff_ne.2 (by omega), BIf_false, show (s.op == 2) = false from beq_eq_false_iff_ne.2 (by omega), BIf_false, show (s.op == 3) = false from beq_eq_false_iff_ne.2 (by omega)]
    unfold F27_J1
    rw [BIf_false, show (s.op == 4) = false from beq_eq_false_iff_ne.2 (by omega), BIf_false, show (s.op == 5) = false from beq_eq_false_iff_ne.2 (by omega)]
    unfold F27_J5
    rw [BIf_false, show (s.op == 6) = true by rw [h6]; rfl, BIf_true]
    refine drw_intro fun w3 f3 z3 => ?_
    have b3 := b2.fr f3 id
    simp only [add_mk, Nat.zero_add]
    refine load_int (i := 3) b3 rfl ?_
    have en : (stepSA dm M s).n = now.length := by rw [eA]; exact hsame.sz
    rw [en, wrap_u64 (by omega) (by omega)]
    refine bind_intro ?_
    rw [show (((now.length : Nat) : Int) == ((now.length : Nat) : Int)) = true by simp]
    have f03 := f02.trans f3 fun _ h => h.elim
    exact hk w3 np nc now (by rw [eM]; exact hsame) (hN.fr0 f03) (by omega) f03
  · have eA : stepSA dm M s = ansD (oldsA dm M s) := by
      unfold stepSA oldsA
      by_cases ho : s.op = 1
      · rw [if_pos ho, if_pos ho]
      · rw [if_neg ho, if_neg ho, if_pos (by omega)]
    have eM : stepSM dm M s = MAt dm M s s.dots.length := by
      unfold stepSM MAt; rw [List.take_length]
    have hol := oldsA_len dm M s
    rw [eA] at hG hH
    have ed : (stepSA dm M s).dots.length = s.dots.length := by rw [eA]; show (List.map _ _).length = _; rw [List.length_map, hol]
    have ei : (stepSA dm M s).is.length = s.dots.length := by rw [eA]; show (List.map _ _).length = _; rw [List.length_map, hol]
    rw [ed, ei] at b2
    generalize (((stepSA dm M s).n : Nat) : Int) = nn at b2
    have j1 : F27_J1 k np now.length nc ⟨n15, 0, none⟩ ⟨n16, 0, none⟩ s.op true w2 := by
      unfold F27_J1
      rw [BIf_true]
      simp only [add_mk, Nat.zero_add]
      refine load_slice (i := 0) b2 rfl (load_slice (i := 2) b1 rfl ?_)
      rw [show (((s.dots.length : Nat) : Int) != ((s.dots.length : Nat) : Int)) = false by simp, BIf_false]
      refine load_slice (i := 1) b2 rfl (load_slice (i := 2) b1 rfl ?_)
      rw [show (((s.dots.length : Nat) : Int) != ((s.dots.length : Nat) : Int)) = false by simp]
      unfold F27_J2
      rw [BIf_false]
      refine F27_L1_rule (I := fun p' l' c' sa ga i w' => sa = ⟨n15, 0, none⟩ ∧ ga = ⟨n16, 0, none⟩ ∧ ∃ t : Nat, i = ((t : Nat) : Int) ∧ t ≤ s.dots.length ∧ Same dm (MAt dm M s t) (nowAt now s t) ∧ l' = (nowAt now s t).length ∧ Lp w' p' c' (nowAt now s t) ∧ (nowAt now s t).length ≤ now.length + t ∧ Fr (fun _ => False) w2 w')
        (μ := fun p' l' c' sa ga i w' => s.dots.length - i.toNat) ?_ ⟨rfl, rfl, 0, rfl, Nat.zero_le _, ?_, ?_, ?_, ?_, Fr.refl _ _⟩
      · rintro p' l' c' sa ga i w3 ⟨rfl, rfl, t, rfl, ht, hsm, e3, hL, hle, f3⟩
        rw [e3]
        unfold F27_L1
        simp only [add_mk, Nat.zero_add]
        have c1 := b1.fr f3 id
        have c2 := b2.fr f3 id
        have f03 := f02.trans f3 fun _ h => h.elim
        refine load_slice (i := 2) c1 rfl ?_
        by_cases hlt : t < s.dots.length
        · rw [decide_eq_true (show ((t : Nat) : Int) < ((s.dots.length : Nat) : Int) by omega), BIf_true]
          refine load_slice (i := 2) c1 rfl ?_
          have hx : s.dots[t]? = some s.dots[t] := List.getElem?_eq_getElem hlt
          have hxm : s.dots[t] ∈ s.dots := List.getElem_mem hlt
          generalize s.dots[t] = x at hx hxm
          have hxl := hdl x hxm
          have hos := oldsA_get hsm hx hxl
          have hnext := same_next hsm hx hxl
          have hg1 : (ansD (oldsA dm M s)).dots[t]? = some (pdO (fndP x.1 (nowAt now s t))) := by show (List.map _ _)[t]? = _; rw [List.getElem?_map, hos]; rfl
          have hg2 : (ansD (oldsA dm M s)).is[t]? = some (fndP x.1 (nowAt now s t)).isSome := by show (List.map _ _)[t]? = _; rw [List.getElem?_map, hos]; rfl
          have hat := atP_fnd hxl hsm.sl
          obtain ⟨dq, do', edp, xp, xc, d0, d1, hI⟩ := (hD.fr0 f03).get hx
          rw [edp]
          simp only [NN_mk, Int.toNat_natCast, add_mk]
          refine Req_iff.2 ⟨by omega, LoadT_slice.2 ⟨_, _, _, d0, ?_⟩⟩
          -- behind the comparison: the list goes on
          have j3 : ∀ w4, Fr (fun _ => False) w3 w4 → F27_J3 k (fun p'' l'' c'' sa' ga' i' w' => (sa' = ⟨n15, 0, none⟩ ∧ ga' = ⟨n16, 0, none⟩ ∧ ∃ t : Nat, i' = ((t : Nat) : Int) ∧ t ≤ s.dots.length ∧ Same dm (MAt dm M s t) (nowAt now s t) ∧ l'' = (nowAt now s t).length ∧ Lp w' p'' c'' (nowAt now s t) ∧ (nowAt now s t).length ≤ now.length + t ∧ Fr (fun _ => False) w2 w') ∧ s.dots.length - i'.toNat < s.dots.length - ((t : Nat) : Int).toNat) p' (nowAt now s t).length c' ⟨n15, 0, none⟩ ⟨n16, 0, none⟩ ((t : Nat) : Int) false w4 := fun w4 f4 => by
            unfold F27_J3
            rw [BIf_false]
            have k1 := c1.fr f4 id
            refine load_int (i := 0) k1 rfl ?_
            have f24 := f3.trans f4 fun _ h => h.elim
            by_cases ho : s.op = 1
            · rw [show (s.op == 1) = true by rw [ho]; rfl, BIf_true]
              refine drw_intro fun w5 f5 z5 => ?_
              have k1 := k1.fr f5 id
              have f35 := f4.trans f5 fun _ h => h.elim
              simp only [add_mk, Nat.zero_add]
              refine load_slice (i := 2) k1 rfl ?_
              rw [edp]
              simp only [NN_mk, Int.toNat_natCast, add_mk]
              refine Req_iff.2 ⟨by omega, LoadT_slice.2 ⟨_, _, _, cellF0 d0 f35, load_slice (i := 2) k1 (by rw [edp]; rfl) ?_⟩⟩
              simp only [NN_mk, add_mk]
              refine Req_iff.2 ⟨by omega, LoadT_int.2 ⟨_, cellF0 d1 f35, ?_⟩⟩
              refine F31_call (F31_spec (x := x) (n := dm) (hL.fr0 f35) (hI.fr0 f35) hsm.sl hxl (by omega) (by omega) fun w6 p6 c6 hL6 f6 => back_slice ?_)
              have f36 := f35.trans f6 fun _ h => h.elim
              have k1 := k1.fr f6 id
              refine ⟨cellF0 d1 f36, chk (i := 2) k1 (by rw [edp]; rfl) ⟨cellF0 d0 f36, chk (i := 2) k1 (by rw [edp]; rfl) ?_⟩⟩
              unfold F27_J4
              refine load_int (i := 0) k1 rfl ?_
              rw [show (s.op == 2) = false from beq_eq_false_iff_ne.2 (by omega), BIf_false, addI_i64 (by omega) (by omega)]
              have en : nowAt now s (t + 1) = insP (nowAt now s t) x := by unfold nowAt; rw [if_pos ho, if_pos ho, take_snoc hx, putsP_snoc]
              have hil := insP_le x (nowAt now s t)
              refine ⟨⟨rfl, rfl, t + 1, by omega, hlt, hnext, by rw [en], by rw [en]; exact hL6, by rw [en]; omega, f3.trans f36 fun _ h => h.elim⟩, ?_⟩
              show s.dots.length - (((t : Nat) : Int) + 1).toNat < s.dots.length - ((t : Nat) : Int).toNat
              omega
            · rw [show (s.op == 1) = false from beq_eq_false_iff_ne.2 ho, BIf_false]
              unfold F27_J4
              refine load_int (i := 0) k1 rfl ?_
              rw [show (s.op == 2) = false from beq_eq_false_iff_ne.2 (by omega), BIf_false, addI_i64 (by omega) (by omega)]
              have en : nowAt now s (t + 1) = nowAt now s t := by unfold nowAt; rw [if_neg ho, if_neg ho]
              refine ⟨⟨rfl, rfl, t + 1, by omega, hlt, hnext, by rw [en], by rw [en]; exact hL.fr0 f4, by rw [en]; omega, f24⟩, ?_⟩
              show s.dots.length - (((t : Nat) : Int) + 1).toNat < s.dots.length - ((t : Nat) : Int).toNat
              omega
          -- the entry that was asked for is written down
          have wr : ∀ (w4 : World) (q : Option Addr) (l0 c0 : Nat) (v : Int) (K : Nat → W), Fr (fun _ => False) w3 w4 → (∀ n41 w5, Fr (fun _ => False) w4 w5 → Blk w5 n41 85 [.slice q l0 c0, .int .i64 v] → K n41 w5) →
              New [.slice none 0 0, .int .i64 0] 85 (fun n41 => Store1 ⟨n41, 0, none⟩ (.slice q l0 c0) <| Store1 ⟨n41, 1, none⟩ (.int .i64 v) <| Drw (K n41)) w4 := fun w4 q l0 c0 v K f4 hK => by
            refine new_intro fun n41 w5 e5 b5 f5 z5 => ?_
            refine store_intro (i := 0) b5 (by simp) rfl fun w6 b6 f6 z6 => ?_
            refine store_intro (i := 1) b6 (by simp) rfl fun w7 b7 f7 z7 => ?_
            refine drw_intro fun w8 f8 z8 => ?_
            have f48 : Fr (fun _ => False) w4 w8 := by
              have : Fr (fun b => b = n41) w4 w8 := (((f5.mono (S' := fun b => b = n41) fun _ h => h.elim).trans f6 fun _ h => .inl h).trans f7 fun _ h => .inl h).trans f8 fun _ h => h.elim
              exact this.mono fun b h => .inr (by have h : b = n41 := h; omega)
            exact hK n41 w8 f48 (b7.fr f8 id)
          refine F58_call (F58_spec (n := dm) hL.1 hI hsm.sl.1 hxl (by omega) (by omega) (fun h0 w4 f4 => back_dob ?_) fun y hy w4 yp yc hy1 f4 => back_dob ?_)
          · rw [hat] at h0
            rw [h0] at hg2
            have hg2 : (ansD (oldsA dm M s)).is[t]? = some false := hg2
            refine wr w4 _ _ _ _ _ f4 fun n41 w5 f5 b5 => ?_
            have f35 := f4.trans f5 fun _ h => h.elim
            refine load_slice (i := 1) (c2.fr f35 id) rfl ?_
            obtain ⟨hq, ho', ehp, hcell⟩ := slb_get (hH.fr0 (f03.trans f35 fun _ h => h.elim)) hg2
            rw [ehp]
            simp only [NN_mk, Int.toNat_natCast, add_mk]
            refine Req_iff.2 ⟨by omega, LoadT_bool.2 ⟨_, hcell, ?_⟩⟩
            rw [show (!(false == false)) = false from rfl, BIf_false, BIf_false]
            have := j3 w5 f35
            rw [edp, ehp] at *
            exact this
          · rw [hat] at hy
            rw [hy] at hg1 hg2
            have hg2 : (ansD (oldsA dm M s)).is[t]? = some true := hg2
            have hg1 : (ansD (oldsA dm M s)).dots[t]? = some y := hg1
            have hyx : y.1 = x.1 := by have := List.find?_some hy; simpa using this
            refine wr w4 _ _ _ _ _ f4 fun n41 w5 f5 b5 => ?_
            have f35 := f4.trans f5 fun _ h => h.elim
            have f05 := f03.trans f35 fun _ h => h.elim
            have k2 := c2.fr f35 id
            refine load_slice (i := 1) k2 rfl ?_
            obtain ⟨hq, ho', ehp, hcell⟩ := slb_get (hH.fr0 f05) hg2
            obtain ⟨gq, go', egp, gxp, gxc, g0, g1, gI⟩ := (hG.fr0 f05).get hg1
            rw [ehp]
            simp only [NN_mk, Int.toNat_natCast, add_mk]
            refine Req_iff.2 ⟨by omega, LoadT_bool.2 ⟨_, hcell, ?_⟩⟩
            rw [show (!(true == true)) = false from rfl, BIf_false, BIf_true]
            refine load_slice (i := 0) k2 rfl ?_
            rw [egp]
            simp only [NN_mk, add_mk]
            refine Req_iff.2 ⟨by omega, LoadT_int.2 ⟨_, g1, load_int (i := 1) b5 rfl ?_⟩⟩
            rw [show (y.2 != y.2) = false by simp, BIf_false]
            refine load_slice (i := 0) k2 rfl ?_
            rw [egp]
            simp only [NN_mk, add_mk]
            refine Req_iff.2 ⟨by omega, LoadT_slice.2 ⟨_, _, _, g0, load_slice (i := 0) b5 rfl ?_⟩⟩
            rw [show (((y.1.length : Nat) : Int) != ((y.1.length : Nat) : Int)) = false by simp, BIf_false]
            refine load_slice (i := 0) k2 rfl ?_
            rw [egp]
            simp only [NN_mk, add_mk]
            refine Req_iff.2 ⟨by omega, LoadT_slice.2 ⟨_, _, _, g0, load_slice (i := 0) b5 rfl ?_⟩⟩
            refine F59_call (F59_spec gI (hy1.fr0 f5) rfl (by rw [hyx]; omega) fun w6 f6 => back_int ?_)
            have k2' := k2.fr f6 id
            have b6 := b5.fr f6 id
            have hz : cmpI y.1 y.1 = 0 := (cmpI_zero rfl).2 rfl
            rw [hz]
            refine chk (i := 0) k2' (by rw [egp]; rfl) (chk (i := 0) b6 rfl ⟨cellF0 g0 f6, chk (i := 0) k2' (by rw [egp]; rfl) (chk (i := 1) b6 rfl ⟨cellF0 g1 f6, chk (i := 0) k2' (by rw [egp]; rfl) ⟨cellF0 hcell f6, chk (i := 1) k2' (by rw [ehp]; rfl) ?_⟩⟩)⟩)
            rw [show ((0 : Int) != 0) = false from rfl]
            have := j3 w6 (f35.trans f6 fun _ h => h.elim)
            exact this
        · rw [decide_eq_false (show ¬ ((t : Nat) : Int) < ((s.dots.length : Nat) : Int) by omega), BIf_false]
          have : t = s.dots.length := by omega
          subst this
          exact hk w3 p' c' _ (by rw [eM]; exact hsm) hL hle f03
      · unfold MAt nowAt
        split
        · exact hsame
        · exact hsame
      · unfold nowAt; split <;> rfl
      · have en : nowAt now s 0 = now := by unfold nowAt; split <;> rfl
        rw [en]; exact hN.fr0 f02
      · have en : nowAt now s 0 = now := by unfold nowAt; split <;> rfl
        rw [en]; omega
    rcases hop with ho | ho | ho
    · rw [show (s.op == 1) = true by rw [ho]; rfl, BIf_true]
      rw [ed, ei] at *
      exact j1
    · rw [show (s.op == 1) = false from beq_eq_false_iff_ne.2 (by omega), BIf_false, show (s.op == 2) = false from beq_eq_false_iff_ne.2 (by omega), BIf_false, show (s.op == 3) = true by rw [ho]; rfl]
      exact j1
    · exact absurd ho h6
end
end Go.Proofs.Ytfokodpnoiilbaa.E
