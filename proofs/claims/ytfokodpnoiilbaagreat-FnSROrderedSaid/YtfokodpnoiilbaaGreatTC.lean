/-
  Ordered range trees: delete.
-/
import Derived.Test.YtfokodpnoiilbaaGreatTB
namespace Go.Proofs.YtfokodpnoiilbaaGreat.E
open Go
set_option linter.unusedSimpArgs false
set_option linter.unusedVariables false
set_option maxRecDepth 100000
set_option maxHeartbeats 8000000

theorem Fy.d {base : Nat} {w w' : World} : Fy base w w' → FX base tsD w w' := fun ⟨S, f, h, g⟩ => ⟨S, f, fun b u us hb hu => by
  have := h b u us hb hu
  simp only [List.mem_cons, List.not_mem_nil, or_false] at this
  rcases this with e | e | e <;> rw [e] <;> decide, g⟩
theorem Fy.y {base : Nat} {w w' : World} : Fy base w w' → FX base [175, 97, 172] w w' := fun h => h
section
variable {w : World} {k : Value → W} {base tb num dm pl pc B : Nat} {pp : Option Addr} {D : List Nat} {s : RSt} {x : Nat}
/-- resetPath. -/
theorem F94_spec (h : RM w base tb num dm pp pl pc D s) (hp : Pth w base pp pl pc) (hk : ∀ w', RM w' base tb num dm pp 0 pc D s → Own w' 188 pp 0 pc [] → FX base tsD w w' → k (.tuple #[]) w') : F94 k (some ⟨tb, 0, none⟩) w := by
  unfold F94
  simp only [NN_mk, add_mk, Nat.zero_add]
  refine load_slice (i := 3) h.top rfl (Req_iff.2 ⟨by omega, ?_⟩)
  refine store_intro (i := 3) h.top (by simp [topc]) rfl fun w1 b1 f1 z1 => ?_
  rw [sliceA0] at b1
  have b1 : Blk w1 tb 97 (topc (s tb) num dm pp 0 pc) := b1
  obtain ⟨⟨ps, O⟩, lo⟩ := hp
  refine hk w1 (h.topT f1 b1) ?_ (h.fxT f1)
  refine (O.fr f1 fun b hb e => ?_).none0
  obtain ⟨us, hu⟩ := O.blk hb
  have e : b = tb := e
  rw [e] at hu
  have := (hu.unique h.top).1
  simp at this
/-- What the walk up has done below a node of the path. -/
def Bot (tb dm : Nat) (e : Dtn) (D : List Nat) (s : RSt) (X : Nat → Nat) (n : Nat) (s1 : RSt) : Prop := (n = dm ∧ s1 = s) ∨ (n < dm ∧ DPost tb (dm - (n + 1)) (n + 1) e (X n) D s s1 ∧ (s1 (X n)).kids = [])
theorem bot_step {e : Dtn} {X J : Nat → Nat} {s1 : RSt} {u : Nat} {p' : Option Addr} {c' : Nat} (hkd : Kd tb D s) (hc : Chn base tb B dm dm e D s X J) (hu : u < dm) (b : Bot tb dm e D s X (u + 1) s1) :
    s1 (X u) = s (X u) ∧ DPost tb (dm - (u + 1)) (u + 1) e (X u) D s (upR s1 (X u) { s1 (X u) with p := p', c := c', kids := cutK s1 (X u) (J u) }) := by
  have ri := hc.ri u (by omega)
  have hk := hc.kd u hu
  have hv := hc.vl u hu
  rcases b with ⟨h1, rfl⟩ | ⟨h1, p, h0⟩
  · have e1 : dm - u = 0 + 1 := by omega
    have e2 : dm - (u + 1) = 0 := by omega
    rw [e1] at ri
    rw [e2]
    exact ⟨rfl, DPost.base ri.nd ri.sr hk hv⟩
  · obtain ⟨m, hm⟩ : ∃ m, dm - u = m + 1 + 1 := ⟨dm - u - 2, by omega⟩
    rw [hm] at ri
    have e1 : dm - (u + 1) = m + 1 := by omega
    have e2 : dm - (u + 1 + 1) = m := by omega
    rw [e2] at p
    rw [e1]
    exact ⟨p.at hkd ri.hx ri.nd (List.mem_of_getElem? hk), DPost.cut hkd ri.hx ri.nd ri.sr hk hv p h0⟩
/-- The walk up. -/
theorem F98_L2_spec {e : Dtn} {X J : Nat → Nat} {ps : List Nat} {nd : Option Addr} (h : RM w base tb num dm pp dm pc D s) (hP : PthM w base tb dm pp pc X J ps) (hc : Chn base tb B dm dm e D s X J) (hd1 : 1 ≤ dm) (hdm : dm < 900) (hB : B < 90000)
    (hk : ∀ w' s', DPost tb (dm - 1) 1 e tb D s s' → RM w' base tb num dm pp dm pc D s' → Pth w' base pp dm pc → FX base tsD w w' → k (.pointer nd) w') :
    Loop [.ptr, .ptr, (.int .i64)] (F98_L2 k) (some ⟨tb, 0, none⟩) nd ((dm - 1 : Nat) : Int) w := by
  have hkd : Kd tb D s := h.kd
  refine F98_L2_rule (I := fun ot n' i w' => ot = some ⟨tb, 0, none⟩ ∧ n' = nd ∧ ∃ (n : Nat) (s1 : RSt), i = ((n : Nat) : Int) - 1 ∧ n ≤ dm ∧ Bot tb dm e D s X n s1 ∧ RM w' base tb num dm pp dm pc D s1 ∧ PthM w' base tb dm pp pc X J ps ∧ FX base tsD w w')
    (μ := fun ot n' i w' => (i + 1).toNat) ?_ ⟨rfl, rfl, dm, s, by omega, Nat.le_refl _, .inl ⟨rfl, rfl⟩, h, hP, .of0 (Fr.refl _ _)⟩
  rintro _ _ i w1 ⟨rfl, rfl, n, s1, rfl, hn, hb, h1, hP1, f1⟩
  unfold F98_L2
  cases n with
  | zero =>
    rw [decide_eq_false (show ¬ ((0 : Nat) : Int) - 1 ≥ 0 by omega), BIf_false]
    rcases hb with ⟨h0, _⟩ | ⟨_, p, _⟩
    · omega
    · rw [hc.x0] at p
      exact hk w1 s1 p h1 hP1.pth f1
  | succ u =>
    rw [show ((u + 1 : Nat) : Int) - 1 = ((u : Nat) : Int) by omega, decide_eq_true (show ((u : Nat) : Int) ≥ 0 by omega), BIf_true]
    have hxe : X u = tb ∨ X u ∈ D := (hc.ri u (by omega)).hx
    obtain ⟨hsx, hdp⟩ := bot_step (p' := (s1 (X u)).p) (c' := (s1 (X u)).c) hkd hc (by omega) hb
    have hkk := hc.kd u (by omega)
    have hkl : (s (X u)).kids.length ≤ B := (hc.ri u (by omega)).b2 _ List.mem_cons_self
    have hjl : J u < (s (X u)).kids.length := (List.getElem?_eq_some_iff.1 hkk).1
    obtain ⟨nb, hnb, bnb⟩ := hP1.nb u (by omega)
    simp only [NN_mk, add_mk, Nat.zero_add]
    refine load_slice (i := 3) h1.top rfl ?_
    obtain ⟨q, rest, rfl, hBq, _, _⟩ := hP1.own.get (by omega)
    simp only [NN_mk, add_mk, Nat.zero_add, Int.toNat_natCast]
    refine Req_iff.2 ⟨by omega, load_ptr hBq (by rw [List.getElem?_append_left (by rw [ptrs_length, hP1.len]; omega), ptrs_get, hnb]; rfl) (drw_intro fun w2 f2 z2 => ?_)⟩
    have b2 := bnb.fr f2 id
    have h2 := h1.fr0 f2
    simp only [NN_mk, add_mk, Nat.zero_add]
    refine load_ptr (i := 0) b2 rfl (load_int (i := 1) b2 rfl ?_)
    refine F110_call (F110_spec h2 hxe (by rw [hsx]; exact hjl) (by rw [hsx]; omega) fun w3 c hcc h3 f3 => back_ptr ?_)
    have fy : Fy base w2 w3 := h2.fy hxe f3
    have x3 : FX base [175, 97, 172] w2 w3 := fy.y
    have hP3 := (hP1.fx (ts := []) (base' := 0) (.of0 f2) (by decide) (by decide)).fx x3 (by decide) (by decide)
    refine load_ptr (i := 0) (x3.blk b2 (by decide)) rfl ?_
    simp only [NN_mk]
    refine h3.cell hxe ?_
    rw [upR_same]
    have f03 : FX base tsD w w3 := (f1.trans (.of0 f2)).trans fy.d
    by_cases h0 : cutK s1 (X u) (J u) = []
    · rw [show decide ((((({ s1 (X u) with p := (s1 (X u)).p, c := (s1 (X u)).c, kids := cutK s1 (X u) (J u) } : Rd).kids.length : Nat) : Int)) > 0) = false from decide_eq_false (by rw [h0]; simp), BIf_false]
      rw [subI_i64 (by omega) (by omega)]
      exact ⟨⟨by trivial, by trivial, u, _, by trivial, by omega, .inr ⟨by omega, hdp, by rw [upR_same]; exact h0⟩, h3, hP3, f03⟩, by omega⟩
    · have hne : (cutK s1 (X u) (J u)).length ≠ 0 := fun h => h0 (List.length_eq_zero_iff.1 h)
      rw [show decide ((((({ s1 (X u) with p := (s1 (X u)).p, c := (s1 (X u)).c, kids := cutK s1 (X u) (J u) } : Rd).kids.length : Nat) : Int)) > 0) = true from decide_eq_true (by show (((cutK s1 (X u) (J u)).length : Nat) : Int) > 0; omega), BIf_true]
      obtain ⟨p, _⟩ := chain_up hkd hc hd1 u 0 (by omega) (by rw [Nat.zero_add]; exact hdp) (by rw [Nat.zero_add, upR_same]; exact h0)
      rw [hc.x0] at p
      exact hk w3 _ p h3 hP3.pth f03
end
end Go.Proofs.YtfokodpnoiilbaaGreat.E
