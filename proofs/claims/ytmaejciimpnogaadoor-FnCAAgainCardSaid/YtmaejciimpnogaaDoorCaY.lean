/-
  Steps that came in, as a statement's row tells of them.
-/
import Derived.Test.YtmaejciimpnogaaDoorCaX
import Derived.Test.YtmaejciimpnogaaDoorRow
import Derived.Test.YtmaejciimpnogaaDoorRecA
import Derived.Lib.SmallJoins
namespace Go.Proofs.YtmaejciimpnogaaDoor.E
open Go Go.ChangeShapes Go.WideShapes Go.ChangeAt Go.RowKit
set_option linter.unusedSimpArgs false
set_option linter.unusedVariables false
set_option maxRecDepth 100000

/-- Of the listed variables nothing is asked. -/
def NoTab (_ : World) : Prop := True
theorem str29 : ∃ a b c d, Tryd.prog.underlying 29 = some (.struct #[a, b, c, d]) ∧ a.type = 3 ∧ a.offset = 0 ∧ b.type = 3 ∧ b.offset = 1 ∧ c.type = 27 ∧ c.offset = 2 ∧ d.type = 25 ∧ d.offset = 4 := ⟨_, _, _, _, rfl, by kernel_rfl, by kernel_rfl, by kernel_rfl, by kernel_rfl, by kernel_rfl, by kernel_rfl, by kernel_rfl, by kernel_rfl⟩
theorem str27 : ∃ a b, Tryd.prog.underlying 27 = some (.struct #[a, b]) ∧ a.type = 3 ∧ a.offset = 0 ∧ b.type = 3 ∧ b.offset = 1 := ⟨_, _, rfl, by kernel_rfl, by kernel_rfl, by kernel_rfl, by kernel_rfl⟩
theorem c29 : Tryd.prog.cellsOf 29 = 5 := by kernel_rfl
theorem c27 : Tryd.prog.cellsOf 27 = 2 := by kernel_rfl
theorem c3 : Tryd.prog.cellsOf 3 = 1 := by kernel_rfl
theorem c25 : Tryd.prog.cellsOf 25 = 1 := by kernel_rfl
theorem und3 : Tryd.prog.underlying 3 = some (.int .i64) := by kernel_rfl
section
variable {H : Type} {enc : TypeId × Value → H} {W : World} {base : Nat} {sp : Nat → Bool} {held : Bool}
theorem add0 (a : Addr) : a.add 0 = a := by obtain ⟨b, o, c⟩ := a; simp [Addr.add]
theorem kys_of {fuel : Nat} {v : Value} {x : DataW H × List MemPlace} (h : DataW.trod enc Tryd.prog W base sp held fuel 25 [v] = some x) : ∃ p c xs, v = .slice p xs.length c ∧ Ints W p xs := by
  obtain ⟨p, c, rs, h1, h2, h3, h4⟩ := recs_of (R := fun a (r : Int) => W.cell? a = some (.int .i64 r)) und25 c3 (fun n cs x a hl hx hc => by
    obtain ⟨n0, e0, _, w0⟩ := DataW.trod_int und3 hx
    refine ⟨n0, ?_⟩
    have := hc 0 (by decide)
    rw [add0] at this
    rw [this, e0]; rfl) h
  exact ⟨p, c, rs, h1, fun i r hr => by
    obtain ⟨a, h5, h6⟩ := h4 i r hr
    rw [Nat.mul_one] at h6
    exact ⟨a, h5, h6⟩⟩
def StA1 (W : World) (a : Addr) (s : CS) : Prop := ∃ q c, W.cell? (a.add 0) = some (.int .i64 s.op) ∧ W.cell? (a.add 1) = some (.int .i64 s.key) ∧ W.cell? (a.add 2) = some (.int .i64 s.sz) ∧ W.cell? (a.add 3) = some (.int .i64 s.tag) ∧ W.cell? (a.add 4) = some (.slice q s.keys.length c) ∧ Ints W q s.keys
theorem sts_of {fuel : Nat} {v : Value} {x : DataW H × List MemPlace} (h : DataW.trod enc Tryd.prog W base sp held fuel 22 [v] = some x) : ∃ p c xs, v = .slice p xs.length c ∧ StA W p xs := by
  obtain ⟨p, c, rs, h1, h2, h3, h4⟩ := recs_of (R := fun a (r : CS) => StA1 W a r) und22 c29 (fun n cs x a hl hx hc => by
    obtain ⟨f0, f1, f2, f3, hs, t0, o0, t1, o1, t2, o2, t3, o3⟩ := str29
    obtain ⟨y0, y1, y2, y3, m, _, _, h5, h6, h7, h8⟩ := Go.Joins.trod_struct4 hs hx
    match cs, hl with
    | [u0, u1, u2, u3, u4], _ =>
      rw [t0, o0, c3] at h5
      rw [t1, o1, c3] at h6
      rw [t2, o2, c27] at h7
      rw [t3, o3, c25] at h8
      obtain ⟨n0, e0, _, w0⟩ := DataW.trod_int und3 h5
      obtain ⟨n1, e1, _, w1⟩ := DataW.trod_int und3 h6
      simp at e0 e1
      obtain ⟨g0, g1, hg, s0, r0, s1, r1⟩ := str27
      obtain ⟨z0, z1, m', _, _, h9, h10⟩ := trod_struct2 hg h7
      rw [s0, r0, c3] at h9
      rw [s1, r1, c3] at h10
      obtain ⟨n2, e2, _, w2⟩ := DataW.trod_int und3 h9
      obtain ⟨n3, e3, _, w3⟩ := DataW.trod_int und3 h10
      simp at e2 e3
      obtain ⟨p4, k4, xs4, e4, i4⟩ := kys_of h8
      refine ⟨⟨n0, n1, n2, n3, xs4⟩, p4, k4, ?_, ?_, ?_, ?_, ?_, i4⟩
      · rw [hc 0 (by decide), e0]; rfl
      · rw [hc 1 (by decide), e1]; rfl
      · rw [hc 2 (by decide), e2]; rfl
      · rw [hc 3 (by decide), e3]; rfl
      · rw [hc 4 (by decide), e4]; rfl) h
  exact ⟨p, c, rs, h1, fun i r hr => by
    obtain ⟨a, h5, q, c, h6⟩ := h4 i r hr
    exact ⟨a, q, c, h5, h6⟩⟩
theorem steps_of {b : Nat} {v : Value} {d : DataW H} {ps : List MemPlace} (hval : Value.okWide Tryd.prog W .any b 22 v) (h : DataW.Trod enc Tryd.prog W base sp held 22 v d ps) : ∃ p c xs, v = .slice p xs.length c ∧ StA W p xs := by
  obtain ⟨fuel, hf⟩ := trod_arg und22 hval h
  exact sts_of hf
end
end Go.Proofs.YtmaejciimpnogaaDoor.E
