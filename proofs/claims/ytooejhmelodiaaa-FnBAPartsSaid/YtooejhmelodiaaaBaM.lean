/-
  Sparse bit arrays in memory; where an index stands; a bit is set.
-/
import Derived.Test.YtooejhmelodiaaaBaP
import Derived.Test.YtooejhmelodiaaaRec
import Derived.Test.YtooejhmelodiaaaLists
import Derived.Test.YtooejhmelodiaaaFnsC
import Derived.Shelf.Abstract
namespace Go.Proofs.Ytooejhmelodiaaa.E
open Go
set_option linter.unusedSimpArgs false
set_option linter.unusedVariables false
set_option maxRecDepth 100000
set_option maxHeartbeats 4000000

def uv (n : Nat) : Value := .int .u64 ((n : Nat) : Int)
def ixs (P : Sp) : List Value := P.map fun p => uv p.1
def bls (P : Sp) : List Value := P.map fun p => uv p.2
theorem ixs_get (P : Sp) (i : Nat) : (ixs P)[i]? = P[i]?.map fun p => uv p.1 := List.getElem?_map
theorem bls_get (P : Sp) (i : Nat) : (bls P)[i]? = P[i]?.map fun p => uv p.2 := List.getElem?_map
@[simp] theorem ixs_len (P : Sp) : (ixs P).length = P.length := List.length_map ..
@[simp] theorem bls_len (P : Sp) : (bls P).length = P.length := List.length_map ..
theorem ixs_app (P Q : Sp) : ixs (P ++ Q) = ixs P ++ ixs Q := List.map_append
theorem bls_app (P Q : Sp) : bls (P ++ Q) = bls P ++ bls Q := List.map_append
/-- The array at block n. -/
structure SpM (w : World) (n : Nat) (bp : Option Addr) (bc : Nat) (ip : Option Addr) (ic : Nat) (P : Sp) : Prop where
  a : Blk w n 85 [.slice bp P.length bc, .slice ip P.length ic]
  b : Own w 65 bp P.length bc (bls P)
  i : Own w 24 ip P.length ic (ixs P)
theorem SpM.fr {w w' : World} {n bc ic : Nat} {bp ip : Option Addr} {P : Sp} {F : Nat → Prop} (h : SpM w n bp bc ip ic P) (f : Fr F w w') (h1 : ¬ F n) (h2 : ∀ b, bl bp b → ¬ F b) (h3 : ∀ b, bl ip b → ¬ F b) : SpM w' n bp bc ip ic P :=
  ⟨h.a.fr f h1, h.b.fr f h2, h.i.fr f h3⟩
theorem SpM.fr0 {w w' : World} {n bc ic : Nat} {bp ip : Option Addr} {P : Sp} (h : SpM w n bp bc ip ic P) (f : Fr (fun _ => False) w w') : SpM w' n bp bc ip ic P := h.fr f id (fun _ _ => id) fun _ _ => id
/-- An array with its blocks. -/
def SA (w : World) (n : Nat) (P : Sp) (F : Nat → Prop) : Prop := ∃ bp bc ip ic, SpM w n bp bc ip ic P ∧ ∀ b, F b ↔ b = n ∨ bl bp b ∨ bl ip b
theorem SA.fr {w w' : World} {n : Nat} {P : Sp} {F G : Nat → Prop} (h : SA w n P F) (f : Fr G w w') (hG : ∀ b, F b → ¬ G b) : SA w' n P F := by
  obtain ⟨bp, bc, ip, ic, h, hF⟩ := h
  exact ⟨bp, bc, ip, ic, h.fr f (hG _ ((hF _).2 (.inl rfl))) (fun b hb => hG b ((hF b).2 (.inr (.inl hb)))) fun b hb => hG b ((hF b).2 (.inr (.inr hb))), hF⟩
theorem SA.fr0 {w w' : World} {n : Nat} {P : Sp} {F : Nat → Prop} (h : SA w n P F) (f : Fr (fun _ => False) w w') : SA w' n P F := h.fr f fun _ _ => id
theorem SA.lt {w : World} {n : Nat} {P : Sp} {F : Nat → Prop} (h : SA w n P F) {b : Nat} (hb : F b) : b < w.heap.size := by
  obtain ⟨bp, bc, ip, ic, h, hF⟩ := h
  rcases (hF b).1 hb with rfl | hb | hb
  · exact h.a.lt
  · exact h.b.lt hb
  · exact h.i.lt hb
theorem SA.ty {w : World} {n : Nat} {P : Sp} {F : Nat → Prop} (h : SA w n P F) : Tys F w [85, 65, 24] := fun b u us hb hu => by
  obtain ⟨bp, bc, ip, ic, h, hF⟩ := h
  rcases (hF b).1 hb with rfl | hb | hb
  · rw [(hu.unique h.a).1]; decide
  · obtain ⟨us', hu'⟩ := h.b.blk hb; rw [(hu.unique hu').1]; decide
  · obtain ⟨us', hu'⟩ := h.i.blk hb; rw [(hu.unique hu').1]; decide
theorem chk {w : World} {b t i : Nat} {vs : List Value} {v : Value} {k : W} (h : Blk w b t vs) (hi : vs[i]? = some v) (hk : k w) : Chk1 ⟨b, i, none⟩ v k w := ⟨by rw [h.cell, hi], hk⟩
theorem und82 : Try.prog.underlying 82 = some (.slice 65) := by kernel_rfl
theorem und83 : Try.prog.underlying 83 = some (.slice 24) := by kernel_rfl
theorem inf65 : ∃ i, Try.prog.info? 65 = some i ∧ i.zero = some (uv 0) ∧ i.size = 1 ∧ i.bytes ≤ 4096 := ⟨_, rfl, by kernel_rfl, by kernel_rfl, Nat.le_of_ble_eq_true (by kernel_rfl)⟩
theorem inf24 : ∃ i, Try.prog.info? 24 = some i ∧ i.zero = some (uv 0) ∧ i.size = 1 ∧ i.bytes ≤ 4096 := ⟨_, rfl, by kernel_rfl, by kernel_rfl, Nat.le_of_ble_eq_true (by kernel_rfl)⟩
theorem hsz65 : (Try.prog.info? 65).map (·.size) = some 1 := by kernel_rfl
theorem hsz24 : (Try.prog.info? 24).map (·.size) = some 1 := by kernel_rfl

/-! ## Where an index stands -/
theorem plc_eq {x : Nat} {P : Sp} {p : Nat} (hp : p ≤ P.length) (h1 : ∀ (j : Nat) q, P[j]? = some q → j < p → q.1 < x) (h2 : ∀ (j : Nat) q, P[j]? = some q → p ≤ j → ¬ q.1 < x) : plc x P = p := by
  have e : lo x P = P.take p := by
    conv => lhs; rw [← List.take_append_drop p P]
    unfold lo
    rw [List.filter_append, List.filter_eq_self.2, List.filter_eq_nil_iff.2, List.append_nil]
    · intro q hq
      obtain ⟨j, hj⟩ := List.mem_iff_getElem?.1 hq
      rw [List.getElem?_drop] at hj
      simpa using h2 _ q hj (by omega)
    · intro q hq
      obtain ⟨j, hj⟩ := List.mem_iff_getElem?.1 hq
      have hjp : j < p := by have := (List.getElem?_eq_some_iff.1 hj).1; simp at this; omega
      rw [List.getElem?_take, if_pos hjp] at hj
      simpa using h1 _ q hj hjp
  unfold plc; rw [e]; simp; omega
theorem NextT_enter {P : Program} {s : Sem Next} {r : RTy} {f : Fn W r.leaves} {g : FuncId} {args : Array Value} {w w' : World} (h : s.run P w = .ok (.enter g args) w') (hk : Calls P g args w' (Back r f)) : NextT P s r f w := by
  unfold NextT; rw [h]; exact hk
theorem callV_enter {P : Program} {f : FuncId} {args caps : Array Value} {w : World} (h : ∀ args w, (callFunc f args).run P w = .ok (.enter f args) w) :
    (callV (.func (.func f) #[] caps) args).run P w = .ok (.enter f (args ++ caps)) w := by
  have e := h (args ++ caps) w
  simp [callV, Deferred.ofValue, invoke, e]
theorem ent109 : ∀ args w, (callFunc 109 args).run Try.prog w = .ok (.enter 109 args) w := enters_of Try.func109 (by kernel_rfl) rfl
theorem srt_lt {P : Sp} (s : Srt P) {i j : Nat} {x y : Nat × Nat} (hx : P[i]? = some x) (hy : P[j]? = some y) (h : i < j) : x.1 < y.1 := by
  obtain ⟨h1, rfl⟩ := List.getElem?_eq_some_iff.1 hx
  obtain ⟨h2, rfl⟩ := List.getElem?_eq_some_iff.1 hy
  exact List.pairwise_iff_getElem.1 s i j h1 h2 h
theorem F101_spec {k : Value → W} {w : World} {ip : Option Addr} {ic x : Nat} {P : Sp} (hO : Own w 24 ip P.length ic (ixs P)) (s : Srt P) (hl : P.length < 100000) (hk : ∀ w', Fr (fun _ => False) w w' → k (.int .i64 ((plc x P : Nat) : Int)) w') :
    F101 k ip P.length ic ((x : Nat) : Int) w := by
  unfold F101
  refine new_intro fun n1 w1 e1 b1 f1 z1 => new_intro fun n2 w2 e2 b2 f2 z2 => ?_
  have b12 := b1.fr f2 id
  have f02 := f1.trans f2 fun _ h => h.elim
  refine load_slice (i := 0) b12 rfl ?_
  refine F108_call ?_
  unfold F108
  refine F108_L1_rule (I := fun f i j w' => f = .func (.func 109) #[] #[.pointer (some ⟨n1, 0, none⟩), .pointer (some ⟨n2, 0, none⟩)] ∧ Fr (fun _ => False) w2 w' ∧ ∃ a b : Nat, i = ((a : Nat) : Int) ∧ j = ((b : Nat) : Int) ∧ a ≤ b ∧ b ≤ P.length ∧ (∀ (j : Nat) q, P[j]? = some q → j < a → q.1 < x) ∧ (∀ (j : Nat) q, P[j]? = some q → b ≤ j → ¬ q.1 < x))
    (μ := fun f i j w' => (j - i).toNat) ?_ ⟨rfl, Fr.refl _ _, 0, P.length, rfl, rfl, Nat.zero_le _, Nat.le_refl _, fun _ _ _ h => by omega, fun j q hj h => by have := (List.getElem?_eq_some_iff.1 hj).1; omega⟩
  rintro _ _ _ w3 ⟨rfl, f3, a, b, rfl, rfl, hab, hb, h1, h2⟩
  unfold F108_L1
  by_cases hlt : a < b
  · rw [decide_eq_true (show ((a : Nat) : Int) < ((b : Nat) : Int) by omega), BIf_true]
    refine bind_intro ?_
    rw [addI_i64 (by omega) (by omega), wrap_u64 (by omega) (by omega), show ((a : Nat) : Int) + ((b : Nat) : Int) = ((a + b : Nat) : Int) by omega, shr_nat .u64 (j := 1) (by decide), wrap_i64 (by omega) (by omega)]
    have hm : (a + b) / 2 ^ 1 = (a + b) / 2 := by simp
    rw [hm]
    generalize hmm : (a + b) / 2 = m at *
    have hma : a ≤ m := by omega
    have hmb : m < b := by omega
    have hq : P[m]? = some (P[m]'(by omega)) := List.getElem?_eq_getElem (by omega)
    generalize P[m]'(by omega) = q at hq
    refine NextT_enter (callV_enter ent109) ?_
    refine F109_calls ?_
    unfold F109
    refine drw_intro fun w4 f4 z4 => ?_
    have f24 := f3.trans f4 fun _ h => h.elim
    have f04 := f02.trans f24 fun _ h => h.elim
    refine load_slice (i := 0) (b12.fr f24 id) rfl ?_
    have hO4 := hO.fr f04 fun _ _ => id
    obtain ⟨qb, rest, rfl, hB, _, _⟩ := hO4.get (by omega)
    rw [NN_mk, Req_iff, Int.toNat_natCast, add_mk, Nat.zero_add]
    refine ⟨by omega, load_int (n := ((q.1 : Nat) : Int)) hB (by rw [List.getElem?_append_left (by simp; omega), ixs_get, hq]; rfl) ?_⟩
    refine load_int (i := 0) (b2.fr f24 id) rfl (back_bool ?_)
    by_cases hqx : q.1 < x
    · rw [decide_eq_false (show ¬ ((q.1 : Nat) : Int) ≥ ((x : Nat) : Int) by omega), Bool.not_false, BIf_true, addI_i64 (by omega) (by omega)]
      refine ⟨⟨rfl, f24, m + 1, b, by omega, rfl, hmb, hb, fun j r hj hjm => ?_, h2⟩, by omega⟩
      by_cases e : j = m
      · rw [e, hq] at hj; cases hj; exact hqx
      · have := srt_lt s hj hq (by omega); omega
    · rw [decide_eq_true (show ((q.1 : Nat) : Int) ≥ ((x : Nat) : Int) by omega), Bool.not_true, BIf_false]
      refine ⟨⟨rfl, f24, a, m, rfl, rfl, hma, by omega, h1, fun j r hj hjm => ?_⟩, by omega⟩
      by_cases e : j = m
      · rw [e, hq] at hj; cases hj; exact hqx
      · have := srt_lt s hq hj (by omega); omega
  · rw [decide_eq_false (show ¬ ((a : Nat) : Int) < ((b : Nat) : Int) by omega), BIf_false]
    have hab : a = b := by omega
    subst hab
    have := hk w3 (f02.trans f3 fun _ h => h.elim)
    rw [plc_eq hb h1 h2] at this
    exact back_int this
end Go.Proofs.Ytooejhmelodiaaa.E
