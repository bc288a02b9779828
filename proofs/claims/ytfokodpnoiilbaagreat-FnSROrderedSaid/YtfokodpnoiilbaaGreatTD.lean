/-
  Ordered range trees: Delete.
-/
import Derived.Test.YtfokodpnoiilbaaGreatTC
namespace Go.Proofs.YtfokodpnoiilbaaGreat.E
open Go
set_option linter.unusedSimpArgs false
set_option linter.unusedVariables false
set_option maxRecDepth 100000
set_option maxHeartbeats 8000000

section
variable {w : World} {k : Value → W} {base tb num dm pl pc B : Nat} {pp : Option Addr} {D : List Nat} {s : RSt} {x : Nat}
theorem PthM.congr {t : Nat} {X J X' J' : Nat → Nat} {ps : List Nat} (h : PthM w base tb t pp pc X J ps) (hX : ∀ u < t, X' u = X u) (hJ : ∀ u < t, J' u = J u) : PthM w base tb t pp pc X' J' ps :=
  ⟨h.own, h.len, h.lo, fun u hu => by rw [hX u hu, hJ u hu]; exact h.nb u hu⟩
/-- A further node of the path. -/
theorem Chn.snoc {e : Dtn} {t c j : Nat} {X J : Nat → Nat} (hkd : Kd tb D s) (h : Chn base tb B dm t e D s X J) (ht : t < dm) (hc : (s (X t)).kids[j]? = some c) (hv : (s c).v = plI e.pos (t + 1)) : Chn base tb B dm (t + 1) e D s (upF X (t + 1) c) (upF J t j) := by
  have e0 : ∀ u ≤ t, upF X (t + 1) c u = X u := fun u hu => upF_ne (by omega)
  refine ⟨by rw [e0 0 (Nat.zero_le _)]; exact h.x0, fun u hu => ?_, fun u hu => ?_, fun u hu => ?_⟩
  · by_cases e : u = t + 1
    · rw [e, upF_same]
      have ri := h.ri t (Nat.le_refl _)
      rw [show dm - t = dm - (t + 1) + 1 by omega] at ri
      exact RIn.found hkd ri (List.mem_of_getElem? hc)
    · rw [e0 u (by omega)]; exact h.ri u (by omega)
  · by_cases e : u = t
    · rw [e, e0 t (Nat.le_refl _), upF_same, upF_same]; exact hc
    · rw [e0 u (by omega), upF_ne e, e0 (u + 1) (by omega)]; exact h.kd u (by omega)
  · by_cases e : u = t
    · rw [e, upF_same]; exact hv
    · rw [e0 (u + 1) (by omega)]; exact h.vl u (by omega)
/-- orderedTree.delete. -/
theorem F98_spec {e : Dtn} (h : RM w base tb num dm pp pl pc D s) (hp : Pth w base pp pl pc) (hi : RIn tb B dm tb D s) (he : DtOk w e) (hd1 : 1 ≤ dm) (hdm : dm < 900) (hB : B < 90000) (hnum : num < 1000000000) (hn : (getON dm (absN dm s tb) (kyD e dm 1)).isSome = true → 1 ≤ num)
    (hk1 : getON dm (absN dm s tb) (kyD e dm 1) = none → ∀ w' pp' pl' pc', RM w' base tb num dm pp' pl' pc' D s → Pth w' base pp' pl' pc' → FX base tsD w w' → k (.pointer none) w')
    (hk2 : ∀ o, o ∈ D → getON dm (absN dm s tb) (kyD e dm 1) = some (s o).e → ∀ w' s' pp' pl' pc', DPost tb (dm - 1) 1 e tb D s s' → RM w' base tb (num - 1) dm pp' pl' pc' D s' → Pth w' base pp' pl' pc' → FX base tsD w w' → k (.pointer (some ⟨o, 0, none⟩)) w') :
    F98 k (some ⟨tb, 0, none⟩) e.v w := by
  have hkd : Kd tb D s := h.kd
  unfold F98
  refine F94_call (F94_spec h hp fun w0 h0 O0 f0 => back0 ?_)
  rw [NN_mk]
  have lo0 : ∀ y, bl pp y → base ≤ y := hp.2
  have hb0 : base ≤ w.heap.size := by
    have := (h.lo tb (.inl rfl)).1
    have := h.top.lt; omega
  have hc0 : Chn base tb B dm 0 e D s (fun _ => tb) (fun _ => 0) := by
    refine ⟨rfl, fun u hu => ?_, fun u hu => by omega, fun u hu => by omega⟩
    have : u = 0 := by omega
    rw [this]; exact hi
  refine F98_L1_rule (I := fun ot en nd li i w' => ot = some ⟨tb, 0, none⟩ ∧ en = e.v ∧ ∃ (t : Nat) (X J : Nat → Nat) (ps : List Nat) (pp' : Option Addr) (pc' : Nat), t ≤ dm ∧ i = ((t + 1 : Nat) : Int) ∧ nd = (if t = 0 then none else some ⟨X t, 0, none⟩) ∧ (li = la tb (X t)) ∧ Chn base tb B dm t e D s X J ∧ PthM w' base tb t pp' pc' X J ps ∧ RM w' base tb num dm pp' t pc' D s ∧ DtOk w' e ∧
      getON dm (absN dm s tb) (kyD e dm 1) = getON (dm - t) (absN (dm - t) s (X t)) (kyD e (dm - t) (t + 1)) ∧ FX base tsD w w')
    (μ := fun ot en nd li i w' => (dm + 2 - i : Int).toNat) ?_ ⟨rfl, rfl, 0, fun _ => tb, fun _ => 0, [], pp, pc, Nat.zero_le _, rfl, rfl, (if_pos rfl).symm, hc0, ⟨O0, rfl, lo0, fun u hu => by omega⟩, h0, f0.dt he (by decide), rfl, f0⟩
  rintro _ _ nd li i w1 ⟨rfl, rfl, t, X, J, ps, pp1, pc1, ht, rfl, rfl, rfl, hc, hP, h1, he1, hg, f1⟩
  unfold F98_L1
  simp only [NN_mk, add_mk, Nat.zero_add]
  refine load_int (i := 2) h1.top rfl ?_
  by_cases hlt : t < dm
  · rw [decide_eq_true (show ((t + 1 : Nat) : Int) ≤ ((dm : Nat) : Int) by omega), BIf_true]
    have ri := hc.ri t (Nat.le_refl _)
    obtain ⟨m, hm⟩ : ∃ m, dm - t = m + 1 := ⟨dm - t - 1, by omega⟩
    rw [hm] at ri hg
    have hkl : (s (X t)).kids.length < 100000 := by have := ri.b2 _ List.mem_cons_self; omega
    have hsr := sr_keys ri.sr
    have hsv : (lvl m s (s (X t)).kids).Pairwise (fun p q => p.1 < q.1) := ri.sr.1
    refine val_intro he1 (by omega) fun w2 f2 => ?_
    have h2 := h1.fr0 f2
    refine h2.cell ri.hx ?_
    refine F109_call (F109_spec h2 ri.hx hsr hkl (fun c a1 a2 w3 f3 => back_pi ?_) fun a1 w3 f3 => back_pi ?_)
    · rw [show (some (⟨c, 0, none⟩ : Addr)).isNone = false from rfl, BIf_false]
      have h3 := h2.fr0 f3
      have f13 : Fr (fun _ => False) w1 w3 := f2.trans f3 fun _ h => h.elim
      have hcm : c ∈ (s (X t)).kids := List.mem_of_getElem? a1
      have hcD := h.kd _ ri.hx c hcm
      generalize hj : lbd (plI e.pos (t + 1)) (keysR s (X t)) = j at a1
      refine new_intro fun n w4 e4 b4 f4 z4 => ?_
      have h4 := h3.fr0 f4
      have f14 : Fr (fun _ => False) w1 w4 := f13.trans f4 fun _ h => h.elim
      have hP4 := hP.fx (ts := []) (base' := 0) (.of0 f14) (by decide) (by decide)
      refine load_slice (i := 3) h4.top rfl ?_
      obtain ⟨ie, g1, g2, g3, g4⟩ := inf188
      refine append1 und184 g1 g2 g3 rfl g4 hP4.own (v := .pointer (some ⟨n, 0, none⟩)) rfl rfl (by omega) fun p5 c5 w5 f5 o5 hp5 z5 => ?_
      have T5 : Tys (fun b => bl pp1 b) w4 [188] := fun b u us hb hu => by
        obtain ⟨us', hu'⟩ := hP4.own.blk hb
        rw [(hu.unique hu').1]; decide
      have x5 : FX base tsD w4 w5 := ⟨_, f5, fun b u us hb hu => by have := T5 b u us hb hu; simp at this; rw [this]; decide, hP4.lo⟩
      have h5 : RM w5 base tb num dm pp1 t pc1 D s := h4.fr f5 fun b u us hs hu => by
        have := T5 b u us hs hu
        simp at this; rw [this]; decide
      refine store_intro (i := 3) h5.top (by simp [topc]) rfl fun w6 b6 f6 z6 => ?_
      have b6 : Blk w6 tb 97 (topc (s tb) num dm p5 (t + 1) c5) := b6
      have h6 := h5.topT f6 b6
      have x6 := h5.fxT f6
      have x6' : FX 0 [97] w5 w6 := ⟨_, f6, Tys.one h5.top, fun _ _ => Nat.zero_le _⟩
      have x5' : FX 0 [188] w4 w5 := ⟨_, f5, T5, fun _ _ => Nat.zero_le _⟩
      have z1 := f1.size
      have z14 := f14.size
      have hla : ∀ o : Nat, o ∈ D → (⟨o, 2, none⟩ : Addr) = la tb o := fun o ho => by
        unfold la
        have hne : o ≠ tb := fun e => by rw [e] at ho; exact h.tbD ho
        rw [if_neg hne]
      rw [addI_u64 (by omega) (by omega), show ((t + 1 : Nat) : Int) + 1 = ((t + 1 + 1 : Nat) : Int) by omega]
      have fx : FX base tsD w w6 := ((f1.trans (.of0 f14)).trans x5).trans x6
      have hg' : getON (m + 1) (absN (m + 1) s (X t)) (kyD e (m + 1) (t + 1)) = getON m (absN m s c) (kyD e m (t + 1 + 1)) := get_found hsv (by rw [hj]; exact a1) a2
      refine ⟨⟨by trivial, by trivial, t + 1, upF X (t + 1) c, upF J t j, ps ++ [n], p5, c5, hlt, by trivial, ?_, ?_, hc.snoc hkd hlt a1 a2, ?_, h6, ((he1.fr0 f14).fr f5 fun b u us hb hu e => ?_).fr f6 fun b u us hb hu e => ?_, ?_, fx⟩, by omega⟩
      · rw [if_neg (by omega), upF_same]
      · rw [upF_same]; exact hla c hcD
      · refine ⟨?_, by rw [List.length_append, hP.len]; rfl, fun y hy => ?_, fun u hu => ?_⟩
        · rw [ptrs_append]
          exact x6'.own o5 (by decide)
        · rcases hp5 y hy with h | h
          · exact hP4.lo y h
          · omega
        · by_cases eu : u = t
          · refine ⟨n, ?_, ?_⟩
            · rw [eu, List.getElem?_append_right (by rw [hP.len]; exact Nat.le_refl _), hP.len, Nat.sub_self]; rfl
            · rw [eu, upF_ne (by omega), upF_same]
              exact x6'.blk (x5'.blk b4 (by decide)) (by decide)
          · obtain ⟨n', a, b⟩ := hP4.nb u (by omega)
            refine ⟨n', ?_, ?_⟩
            · rw [List.getElem?_append_left (by rw [hP.len]; omega)]; exact a
            · rw [upF_ne (by omega), upF_ne eu]
              exact x6'.blk (x5'.blk b (by decide)) (by decide)
      · have := T5 b u us hb hu
        rw [e] at this; simp at this
      · have := Tys.one h5.top b u us hb hu
        rw [e] at this; simp at this
      · rw [hg, upF_same, hg', show dm - (t + 1) = m by omega]
    · rw [show (none : Option Addr).isNone = true from rfl, BIf_true]
      have f13 : Fr (fun _ => False) w1 w3 := f2.trans f3 fun _ h => h.elim
      have hg' : getON (m + 1) (absN (m + 1) s (X t)) (kyD e (m + 1) (t + 1)) = none := get_not hsv a1
      exact hk1 (by rw [hg, hg']) w3 pp1 t pc1 (h1.fr0 f13) (hP.fx (ts := []) (base' := 0) (.of0 f13) (by decide) (by decide)).pth (f1.trans (.of0 f13))
  · rw [decide_eq_false (show ¬ ((t + 1 : Nat) : Int) ≤ ((dm : Nat) : Int) by omega), BIf_false]
    have : t = dm := by omega
    subst this
    rw [Nat.sub_self] at hg
    have hg : getON t (absN t s tb) (kyD e t 1) = some (s (X t)).e := hg
    have hn1 := hn (by rw [hg]; rfl)
    refine load_int (i := 1) h1.top rfl ?_
    rw [subI_u64 (by omega) (by omega), show ((num : Nat) : Int) - 1 = ((num - 1 : Nat) : Int) by omega]
    refine store_intro (i := 1) h1.top (by simp [topc]) rfl fun w2 b2 f2 z2 => ?_
    have b2 : Blk w2 tb 97 (topc (s tb) (num - 1) t pp1 t pc1) := b2
    have h2 := h1.topT f2 b2
    have x2 := h1.fxT f2
    have x2' : FX 0 [97] w1 w2 := ⟨_, f2, Tys.one h1.top, fun _ _ => Nat.zero_le _⟩
    refine load_slice (i := 3) h2.top rfl (bind_intro ?_)
    rw [subI_i64 (by omega) (by omega), show ((t : Nat) : Int) - 1 = ((t - 1 : Nat) : Int) by omega, if_neg (by omega)]
    have hXD : X t ∈ D := by
      have := hc.kd (t - 1) (by omega)
      rw [show t - 1 + 1 = t by omega] at this
      exact h.kd _ (hc.ri (t - 1) (by omega)).hx _ (List.mem_of_getElem? this)
    exact F98_L2_spec h2 (hP.fx x2' (by decide) (by decide)) hc hd1 hdm hB fun w' s' p' h' hp' f' => hk2 (X t) hXD hg w' s' _ _ _ p' h' hp' ((f1.trans x2).trans f')
end
end Go.Proofs.YtfokodpnoiilbaaGreat.E
