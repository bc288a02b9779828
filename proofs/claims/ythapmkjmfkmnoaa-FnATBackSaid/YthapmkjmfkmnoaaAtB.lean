/-
  Interval trees: Query.
-/
import Derived.Test.YthapmkjmfkmnoaaAtA
namespace Go.Proofs.Ythapmkjmfkmnoaa.E
open Go
set_option linter.unusedSimpArgs false
set_option linter.unusedVariables false
set_option maxRecDepth 100000
set_option maxHeartbeats 8000000

theorem inf57' : ∃ i, Try.prog.info? 57 = some i ∧ i.zero = some .nilIface ∧ i.size = 1 ∧ i.bytes ≤ 65536 := ⟨_, rfl, by kernel_rfl, by kernel_rfl, Nat.le_of_ble_eq_true (by kernel_rfl)⟩
/-- Query of a tree that is not empty. -/
theorem F37_spec {w : World} {k : Value → W} {D : List Nat} {s : St} {tb T b m : Nat} {y : Spn} {t : Tr} {rest : List Value} (hT : Blk w tb T (.pointer (some ⟨b, 0, none⟩) :: .int .u64 ((m : Nat) : Int) :: rest)) (h : MS w D s) (hy : SpOk w y) (hm : 1 ≤ m) (hm9 : m < 100) (hR : Rep s (some b) t) (hB : Bnd s t) (hD : ∀ z ∈ t.ino, z ∈ D) (hx : Has s t) (hl : t.ino.length < 1000)
    (hk : ∀ w' p l c, Own w' 57 p l c ((got s y m t).map Spn.v) → MS w' D s → SpOk w' y → Fr (fun _ => False) w w' → k (.slice p l c) w') : F37 k (some ⟨tb, 0, none⟩) y.v w := by
  unfold F37
  simp only [NN_mk]
  refine load_ptr (i := 0) hT rfl ?_
  rw [show (some (⟨b, 0, none⟩ : Addr)).isNone = false from rfl, BIf_false]
  obtain ⟨i57, g1, g2, g3, g4⟩ := inf57'
  refine make_intro 0 10 und64 g1 g2 g3 rfl g4 (by omega) (by omega) fun w1 f1 o1 b1 z1 => ?_
  refine new_intro fun n6 w2 e2 b2 f2 z2 => ?_
  refine store_intro (i := 0) b2 (by simp) rfl fun w3 b3 f3 z3 => ?_
  have s1 := f1.size
  have f13 : Fr (fun _ => False) w1 w3 := (f2.mono (S' := fun b => b = n6) fun _ h => h.elim).trans f3 (fun _ h => .inl h) |>.mono fun b h => .inr (by have h : b = n6 := h; omega)
  have f03 := f1.trans f13 fun _ h => h.elim
  rw [show (1 : Int) = ((1 : Nat) : Int) from rfl]
  refine lo_intro (hy.fr0 f03) (by decide) fun w4 f4 => hi_intro ((hy.fr0 f03).fr0 f4) (by decide) fun w5 f5 => drw_intro fun w6 f6 z6 => ?_
  have f36 := (f4.trans f5 fun _ h => h.elim).trans f6 fun _ h => h.elim
  have f06 := f03.trans f36 fun _ h => h.elim
  have hT6 := hT.fr f06 id
  refine load_ptr (i := 0) hT6 rfl ?_
  rw [add_mk, Nat.zero_add]
  refine load_int (i := 1) hT6 rfl ?_
  have hF : FL w6 n6 w.heap.size ([] : List Spn) := ⟨_, _, _, b3.fr f36 id, (o1.fr f13 fun _ _ => id).fr f36 fun _ _ => id, fun b ⟨a, h1, h2⟩ => by cases h1; rw [← h2]; exact Nat.le_refl _⟩
  have sz := f06.size
  refine F43_call (query_spec (w00 := w) (X := []) hm hm9 hR hB hD hx ⟨h.fr0 f06, hy.fr0 f06, hF, sz, (by have := f1.size; omega), f06.mono fun _ h => h.elim⟩ (by simp; omega) fun w7 ⟨h1, h2, ⟨p, l, c, B, O, _⟩, _, _, f7⟩ => back0 ?_)
  exact load_slice (i := 0) B rfl (hk w7 p l c (by simpa using O) h1 h2 (f7.mono fun b hb => .inr hb))
end Go.Proofs.Ythapmkjmfkmnoaa.E
