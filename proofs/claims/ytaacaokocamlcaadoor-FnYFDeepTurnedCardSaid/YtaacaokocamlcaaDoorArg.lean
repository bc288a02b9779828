/-
  Entries and steps that came in, as a statement's row tells of them.
-/
import Derived.Test.YtaacaokocamlcaaDoorLH
import Derived.Test.YtaacaokocamlcaaDoorTab
import Derived.Test.YtaacaokocamlcaaDoorRecA
namespace Go.Proofs.YtaacaokocamlcaaDoor.E
open Go Go.ChangeShapes Go.WideShapes Go.ChangeAt Go.RowKit
set_option linter.unusedSimpArgs false
set_option linter.unusedVariables false
set_option maxRecDepth 100000

theorem str35 : ∃ a b, Tryd.prog.underlying 35 = some (.struct #[a, b]) ∧ a.type = 22 ∧ a.offset = 0 ∧ b.type = 3 ∧ b.offset = 1 := ⟨_, _, rfl, by kernel_rfl, by kernel_rfl, by kernel_rfl, by kernel_rfl⟩
theorem str33 : ∃ a b c, Tryd.prog.underlying 33 = some (.struct #[a, b, c]) ∧ a.type = 3 ∧ a.offset = 0 ∧ b.type = 26 ∧ b.offset = 1 ∧ c.type = 31 ∧ c.offset = 2 := ⟨_, _, _, rfl, by kernel_rfl, by kernel_rfl, by kernel_rfl, by kernel_rfl, by kernel_rfl, by kernel_rfl⟩
theorem c35 : Tryd.prog.cellsOf 35 = 2 := by kernel_rfl
theorem c33 : Tryd.prog.cellsOf 33 = 3 := by kernel_rfl
theorem c22 : Tryd.prog.cellsOf 22 = 1 := by kernel_rfl
theorem c3 : Tryd.prog.cellsOf 3 = 1 := by kernel_rfl
theorem c26 : Tryd.prog.cellsOf 26 = 1 := by kernel_rfl
theorem c31 : Tryd.prog.cellsOf 31 = 1 := by kernel_rfl
section
variable {H : Type} {enc : TypeId × Value → H} {W : World} {base : Nat} {sp : Nat → Bool} {held : Bool}
theorem its_of {fuel : Nat} {v : Value} {x : DataW H × List MemPlace} (h : DataW.trod enc Tryd.prog W base sp held fuel 26 [v] = some x) : ∃ p c xs, v = .slice p xs.length c ∧ ItA W p xs := by
  obtain ⟨p, c, rs, h1, h2, h3, h4⟩ := recs_of (R := fun a (r : Itm) => W.cell? a = some (.int .u64 (r.1 : Nat)) ∧ W.cell? (a.add 1) = some (.int .i64 r.2) ∧ r.1 < 18446744073709551616) und26 c35 (fun n cs x a hl hx hc => by
    obtain ⟨f0, f1, hs, t0, o0, t1, o1⟩ := str35
    obtain ⟨y0, y1, m, _, _, h5, h6⟩ := trod_struct2 hs hx
    match cs, hl with
    | [u0, u1], _ =>
      rw [t0, o0, c22] at h5
      rw [t1, o1, c3] at h6
      obtain ⟨n0, e0, _, w0⟩ := DataW.trod_int und22 h5
      obtain ⟨n1, e1, _, w1⟩ := DataW.trod_int und3 h6
      simp at e0 e1
      have b0 := wf_u64 w0
      refine ⟨(n0.toNat, n1), ?_, ?_, ?_⟩
      · have := hc 0 (by decide)
        rw [add0] at this
        rw [this, e0]
        simp; omega
      · have := hc 1 (by decide)
        rw [this, e1]; rfl
      · show n0.toNat < _
        omega) h
  exact ⟨p, c, rs, h1, fun i r hr => by
    obtain ⟨a, h5, h6, h7, h8⟩ := h4 i r hr
    exact ⟨a, h5, h6, h7, h8⟩⟩
theorem kys_of {fuel : Nat} {v : Value} {x : DataW H × List MemPlace} (h : DataW.trod enc Tryd.prog W base sp held fuel 31 [v] = some x) : ∃ p c xs, v = .slice p xs.length c ∧ KyA W p xs := by
  obtain ⟨p, c, rs, h1, h2, h3, h4⟩ := recs_of (R := fun a (r : Nat) => W.cell? a = some (.int .u64 (r : Nat)) ∧ r < 18446744073709551616) und31 c22 (fun n cs x a hl hx hc => by
    obtain ⟨n0, e0, _, w0⟩ := DataW.trod_int und22 hx
    have b0 := wf_u64 w0
    refine ⟨n0.toNat, ?_, by omega⟩
    have := hc 0 (by decide)
    rw [add0] at this
    rw [this, e0]
    simp; omega) h
  exact ⟨p, c, rs, h1, fun i r hr => by
    obtain ⟨a, h5, h6, h7⟩ := h4 i r hr
    rw [Nat.mul_one] at h6
    exact ⟨a, h5, h6, h7⟩⟩
theorem sts_of {fuel : Nat} {v : Value} {x : DataW H × List MemPlace} (h : DataW.trod enc Tryd.prog W base sp held fuel 25 [v] = some x) : ∃ p c xs, v = .slice p xs.length c ∧ StA W p xs := by
  obtain ⟨p, c, rs, h1, h2, h3, h4⟩ := recs_of (R := fun a (r : Stp) => StA1 W a r) und25 c33 (fun n cs x a hl hx hc => by
    obtain ⟨f0, f1, f2, hs, t0, o0, t1, o1, t2, o2⟩ := str33
    obtain ⟨y0, y1, y2, m, _, _, h5, h6, h7⟩ := Go.Deep.trod_struct3 hs hx
    match cs, hl with
    | [u0, u1, u2], _ =>
      rw [t0, o0, c3] at h5
      rw [t1, o1, c26] at h6
      rw [t2, o2, c31] at h7
      obtain ⟨n0, e0, _, w0⟩ := DataW.trod_int und3 h5
      simp at e0
      obtain ⟨p1, k1, xs1, e1, i1⟩ := its_of h6
      obtain ⟨p2, k2, xs2, e2, i2⟩ := kys_of h7
      refine ⟨⟨n0, xs1, xs2⟩, p1, k1, p2, k2, ?_, ?_, ?_, i1, i2⟩
      · have := hc 0 (by decide)
        rw [add0] at this
        rw [this, e0]; rfl
      · have := hc 1 (by decide)
        rw [this, e1]; rfl
      · have := hc 2 (by decide)
        rw [this, e2]; rfl) h
  exact ⟨p, c, rs, h1, h4⟩
theorem items_of {b : Nat} {v : Value} {d : DataW H} {ps : List MemPlace} (hval : Value.okWide Tryd.prog W .any b 26 v) (h : DataW.Trod enc Tryd.prog W base sp held 26 v d ps) : ∃ p c xs, v = .slice p xs.length c ∧ ItA W p xs := by
  obtain ⟨fuel, hf⟩ := trod_arg und26 hval h
  exact its_of hf
theorem steps_of {b : Nat} {v : Value} {d : DataW H} {ps : List MemPlace} (hval : Value.okWide Tryd.prog W .any b 25 v) (h : DataW.Trod enc Tryd.prog W base sp held 25 v d ps) : ∃ p c xs, v = .slice p xs.length c ∧ StA W p xs := by
  obtain ⟨fuel, hf⟩ := trod_arg und25 hval h
  exact sts_of hf
end
end Go.Proofs.YtaacaokocamlcaaDoor.E
