/-
  Ordered range trees: an entry is deleted.
-/
import Derived.Test.YtfokodpnoiilbaaGreatTA
namespace Go.Proofs.YtfokodpnoiilbaaGreat.E
open Go
set_option linter.unusedSimpArgs false
set_option linter.unusedVariables false
set_option maxRecDepth 100000
set_option maxHeartbeats 8000000

theorem Own.none0 {w : World} {e : TypeId} {p : Option Addr} {l c : Nat} {vs : List Value} (h : Own w e p l c vs) : Own w e p 0 c [] := by
  refine ⟨rfl, ?_⟩
  rcases h.2 with ⟨h1, h2, h3⟩ | ⟨q, rest, h1, h2, h3, h4⟩
  · exact .inl ⟨h1, rfl, h3⟩
  · exact .inr ⟨q, vs ++ rest, h1, h2, h3, h4⟩
theorem sliceA0 {p : Option Addr} {c : Nat} : sliceA p 0 c 1 = p := by
  unfold sliceA
  split
  · rfl
  · cases p with
    | none => rfl
    | some a => cases a; rfl
theorem inf188 : ∃ i, Tryz.prog.info? 188 = some i ∧ i.zero = some (.pointer none) ∧ i.size = 1 ∧ i.bytes ≤ 4096 := ⟨_, rfl, by kernel_rfl, by kernel_rfl, Nat.le_of_ble_eq_true (by kernel_rfl)⟩
section
variable {w : World} {k : Value → W} {base tb num dm pl pc B : Nat} {pp : Option Addr} {D : List Nat} {s : RSt} {x : Nat}
theorem RM.topT {w' : World} {num' pl' pc' : Nat} {pp' : Option Addr} (h : RM w base tb num dm pp pl pc D s) (f : Fr (fun y => y = tb) w w') (b : Blk w' tb 97 (topc (s tb) num' dm pp' pl' pc')) : RM w' base tb num' dm pp' pl' pc' D s :=
  ⟨fun b hb => (h.nodes b hb).fr f fun e => h.tbD (e ▸ hb), b, fun b hb => (h.own b hb).fr f fun y hy e => h.own_ne hb (.inl rfl) y hy e, h.dj, h.kd, fun b hb x hx => (h.ok b hb x hx).fr f fun y u us hs hu => by
    have hs : y = tb := hs
    subst hs
    have := (hu.unique h.top).1
    rw [this]; decide, h.lo⟩
theorem RM.fxT {w' : World} (h : RM w base tb num dm pp pl pc D s) (f : Fr (fun y => y = tb) w w') : FX base tsD w w' := ⟨_, f, fun b u us hb hu => by
  have := Tys.one h.top b u us hb hu
  simp at this; rw [this]; decide, fun b hb => by have hb : b = tb := hb; rw [hb]; exact (h.lo tb (.inl rfl)).1⟩
/-- What is on the path: nodes from the top down, and where the next one is. -/
structure Chn (base tb B dm t : Nat) (e : Dtn) (D : List Nat) (s : RSt) (X J : Nat → Nat) : Prop where
  x0 : X 0 = tb
  ri : ∀ u ≤ t, RIn tb B (dm - u) (X u) D s
  kd : ∀ u < t, (s (X u)).kids[J u]? = some (X (u + 1))
  vl : ∀ u < t, (s (X (u + 1))).v = plI e.pos (u + 1)
/-- The path in memory. -/
structure PthM (w : World) (base tb t : Nat) (pp : Option Addr) (pc : Nat) (X J : Nat → Nat) (ps : List Nat) : Prop where
  own : Own w 188 pp t pc (ptrs ps)
  len : ps.length = t
  lo : ∀ y, bl pp y → base ≤ y
  nb : ∀ u < t, ∃ n, ps[u]? = some n ∧ Blk w n 190 [.pointer (some (la tb (X u))), .int .i64 ((J u : Nat) : Int)]
theorem PthM.pth {t : Nat} {X J : Nat → Nat} {ps : List Nat} (h : PthM w base tb t pp pc X J ps) : Pth w base pp t pc := ⟨⟨ps, h.own⟩, h.lo⟩
theorem PthM.fx {w' : World} {t base' : Nat} {X J : Nat → Nat} {ps : List Nat} {ts : List TypeId} (h : PthM w base tb t pp pc X J ps) (f : FX base' ts w w') (h1 : 188 ∉ ts) (h2 : 190 ∉ ts) : PthM w' base tb t pp pc X J ps :=
  ⟨f.own h.own h1, h.len, h.lo, fun u hu => by
    obtain ⟨n, a, b⟩ := h.nb u hu
    exact ⟨n, a, f.blk b h2⟩⟩
/-- From a list that is not empty to the top. -/
theorem chain_up {e : Dtn} {X J : Nat → Nat} {s' : RSt} (hkd : Kd tb D s) (hc : Chn base tb B dm dm e D s X J) (hd1 : 1 ≤ dm) : ∀ (n t : Nat), t + n + 1 ≤ dm → DPost tb (dm - (t + n + 1)) (t + n + 1) e (X (t + n)) D s s' → (s' (X (t + n))).kids ≠ [] → DPost tb (dm - (t + 1)) (t + 1) e (X t) D s s' ∧ (s' (X t)).kids ≠ []
  | 0, t, _, p, h => ⟨p, h⟩
  | n + 1, t, hn, p, h => by
    obtain ⟨p1, h1⟩ := chain_up hkd hc hd1 n (t + 1) (by omega) (by rw [show t + 1 + n + 1 = t + (n + 1) + 1 by omega, show t + 1 + n = t + (n + 1) by omega]; exact p) (by rw [show t + 1 + n = t + (n + 1) by omega]; exact h)
    have ri := hc.ri t (by omega)
    obtain ⟨m, hm⟩ : ∃ m, dm - t = m + 1 + 1 := ⟨dm - t - 2, by omega⟩
    rw [hm] at ri
    have e1 : dm - (t + 1) = m + 1 := by omega
    have e2 : dm - (t + 1 + 1) = m := by omega
    rw [e2] at p1
    have hk := hc.kd t (by omega)
    have hv := hc.vl t (by omega)
    rw [e1]
    refine ⟨DPost.up hkd ri.hx ri.nd ri.sr hk hv p1 h1, ?_⟩
    rw [p1.at hkd ri.hx ri.nd (List.mem_of_getElem? hk)]
    intro h0
    rw [h0] at hk; cases hk
end
end Go.Proofs.YtfokodpnoiilbaaGreat.E
