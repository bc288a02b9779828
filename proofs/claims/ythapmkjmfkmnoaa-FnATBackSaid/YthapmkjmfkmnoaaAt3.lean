/-
  Interval trees: rotations, as what they do to a state.
-/
import Derived.Test.YthapmkjmfkmnoaaAt2
namespace Go.Proofs.Ythapmkjmfkmnoaa.E
open Go
set_option linter.unusedSimpArgs false
set_option linter.unusedVariables false
set_option maxRecDepth 100000
set_option maxHeartbeats 8000000

theorem ch_setC (n : Nn) (d : Nat) (o : Option Nat) : ch (setC n d o) d = o := by unfold ch setC; split <;> rfl
theorem ch_setC_ne (n : Nn) {d e : Nat} (o : Option Nat) (hd : d < 2) (he : e < 2) (h : d ≠ e) : ch (setC n d o) e = ch n e := by
  have : (d = 0 ∧ e = 1) ∨ (d = 1 ∧ e = 0) := by omega
  rcases this with ⟨rfl, rfl⟩ | ⟨rfl, rfl⟩ <;> rfl
theorem setC_x (n : Nn) (d : Nat) (o : Option Nat) : (setC n d o).x = n.x := by unfold setC; split <;> rfl
theorem setC_red (n : Nn) (d : Nat) (o : Option Nat) : (setC n d o).red = n.red := by unfold setC; split <;> rfl
theorem setC_mx (n : Nn) (d : Nat) (o : Option Nat) : (setC n d o).mx = n.mx := by unfold setC; split <;> rfl
/-- The links turn: c comes up in b's place. -/
def rotL (s : St) (b c d : Nat) : St :=
  up (up s b { setC (s b) (1 - d) (ch (s c) d) with red := true }) c { setC (s c) d (some b) with red := false, mx := (s b).mx }
def rot (s : St) (b c d : Nat) (xb xc : Spn) : St := setMn (setMn (setMx (setMx (rotL s b c d) c xc) b xb) c xc) b xb
section
variable {w : World} {D : List Nat} {s : St} {b c d : Nat} {k : Value → W} {xb xc : Spn}
theorem clo_ch {n : Nn} (h : Clo D n) {d c : Nat} (hc : ch n d = some c) : c ∈ D := by
  unfold ch at hc
  split at hc
  · exact h.1 c hc
  · exact h.2 c hc
theorem setMx_c (s : St) (b : Nat) (x : Spn) (y : Nat) : ((setMx s b x) y).c0 = (s y).c0 ∧ ((setMx s b x) y).c1 = (s y).c1 ∧ ((setMx s b x) y).x = (s y).x ∧ ((setMx s b x) y).red = (s y).red := by
  unfold setMx up; split
  · rename_i h; subst h; exact ⟨rfl, rfl, rfl, rfl⟩
  · exact ⟨rfl, rfl, rfl, rfl⟩
theorem setMn_c (s : St) (b : Nat) (x : Spn) (y : Nat) : ((setMn s b x) y).c0 = (s y).c0 ∧ ((setMn s b x) y).c1 = (s y).c1 ∧ ((setMn s b x) y).x = (s y).x ∧ ((setMn s b x) y).red = (s y).red := by
  unfold setMn up; split
  · rename_i h; subst h; exact ⟨rfl, rfl, rfl, rfl⟩
  · exact ⟨rfl, rfl, rfl, rfl⟩
/-- What setMax, setMin ask of a node. -/
structure Fine (D : List Nat) (s : St) (b : Nat) (x : Spn) : Prop where
  m : b ∈ D
  x : (s b).x = some x
  c : Clo D (s b)
  n0 : (s b).c0 ≠ some b
  n1 : (s b).c1 ≠ some b
theorem Fine.congr {s' : St} {x : Spn} (h : Fine D s b x) (e0 : (s' b).c0 = (s b).c0) (e1 : (s' b).c1 = (s b).c1) (ex : (s' b).x = (s b).x) : Fine D s' b x :=
  ⟨h.m, by rw [ex]; exact h.x, ⟨by rw [e0]; exact h.c.1, by rw [e1]; exact h.c.2⟩, by rw [e0]; exact h.n0, by rw [e1]; exact h.n1⟩
theorem Fine.mx {x y : Spn} {a : Nat} (h : Fine D s b x) : Fine D (setMx s a y) b x := h.congr (setMx_c s a y b).1 (setMx_c s a y b).2.1 (setMx_c s a y b).2.2.1
theorem Fine.mn {x y : Spn} {a : Nat} (h : Fine D s b x) : Fine D (setMn s a y) b x := h.congr (setMn_c s a y b).1 (setMn_c s a y b).2.1 (setMn_c s a y b).2.2.1
theorem mx_call {K : W} {x : Spn} (h : MS w D s) (hf : Fine D s b x) (hk : ∀ w', MS w' D (setMx s b x) → Fr (fun y => y = b) w w' → K w') : CallT Try.prog 55 [.pointer (some ⟨b, 0, none⟩)] (.tup []) K w :=
  F55_call (F55_spec h hf.m hf.x hf.c hf.n0 hf.n1 fun w' h' f' => back0 (hk w' h' f'))
theorem mn_call {K : W} {x : Spn} (h : MS w D s) (hf : Fine D s b x) (hk : ∀ w', MS w' D (setMn s b x) → Fr (fun y => y = b) w w' → K w') : CallT Try.prog 56 [.pointer (some ⟨b, 0, none⟩)] (.tup []) K w :=
  F56_call (F56_spec h hf.m hf.x hf.c hf.n0 hf.n1 fun w' h' f' => back0 (hk w' h' f'))
/-- rotate: c is b's child on the other side. -/
theorem F48_spec (h : MS w D s) (hd : d < 2) (hb : b ∈ D) (hc : c ∈ D) (hbc : b ≠ c) (hch : ch (s b) (1 - d) = some c) (fb : Fine D (rotL s b c d) b xb) (fc : Fine D (rotL s b c d) c xc)
    (hk : ∀ w', MS w' D (rot s b c d xb xc) → Fr (fun y => y = b ∨ y = c) w w' → k (.pointer (some ⟨c, 0, none⟩)) w') : F48 k (some ⟨b, 0, none⟩) ((d : Nat) : Int) w := by
  unfold F48
  have hcb : c ≠ b := Ne.symm hbc
  refine F50_call (F50_spec hd (back_int ?_))
  simp only [NN_mk, add_mk, Nat.zero_add, Int.toNat_natCast]
  refine Req_iff.2 ⟨by omega, ld_ch h hb (by omega) ?_⟩
  rw [hch]
  refine drw_intro fun w1 f1 z1 => ?_
  have h1 := h.fr0 f1
  simp only [oA_some, NN_mk, add_mk, Nat.zero_add]
  refine Req_iff.2 ⟨by omega, ld_ch h1 hc hd ?_⟩
  refine Req_iff.2 ⟨by omega, st_ch h1 hb (by omega) fun w2 h2 f2 z2 => ?_⟩
  refine Req_iff.2 ⟨by omega, ?_⟩
  show Store1 ⟨c, 3 + d, none⟩ (.pointer (oA (some b))) _ w2
  refine st_ch h2 hc hd fun w3 h3 f3 z3 => ?_
  rw [up_ne hcb] at h3
  refine st_red h3 hb fun w4 h4 f4 z4 => ?_
  refine st_red h4 hc fun w5 h5 f5 z5 => ?_
  refine ld_mx h5 hb ?_
  refine st_mx h5 hc fun w6 h6 f6 z6 => ?_
  have e6 : MS w6 D (rotL s b c d) := by
    refine Eq.mp (congrArg (MS w6 D) ?_) h6
    funext y
    unfold rotL
    by_cases e1 : y = c
    · subst e1
      simp only [up_same, up_ne hcb, up_ne hbc, setC_mx]
    · by_cases e2 : y = b
      · subst e2
        simp only [up_same, up_ne hbc, up_ne e1]
      · simp only [up_ne e1, up_ne e2]
  refine mx_call e6 fc fun w7 h7 f7 => mx_call h7 fb.mx fun w8 h8 f8 => mn_call h8 fc.mx.mx fun w9 h9 f9 => mn_call h9 fb.mx.mx.mn fun w10 h10 f10 => hk w10 h10 ?_
  have B : ∀ y, y = b → (y = b ∨ y = c) ∨ w.heap.size ≤ y := fun y h => .inl (.inl h)
  have Cc : ∀ y, y = c → (y = b ∨ y = c) ∨ w.heap.size ≤ y := fun y h => .inl (.inr h)
  exact (((((((((f1.mono fun _ h => h.elim).trans f2 B).trans f3 Cc).trans f4 B).trans f5 Cc).trans f6 Cc).trans f7 Cc).trans f8 B).trans f9 Cc).trans f10 B
/-- The state behind a double rotation: e, a child of b's child c, comes up in b's place. -/
def rot2 (s : St) (b c e d : Nat) (xb xc xe : Spn) : St := rot (up (rot s c e (1 - d) xc xe) b (setC (rot s c e (1 - d) xc xe b) (1 - d) (some e))) b e d xb xe
theorem F49_spec {e : Nat} {xe : Spn} (h : MS w D s) (hd : d < 2) (hb : b ∈ D) (hc : c ∈ D) (he : e ∈ D) (hbe : b ≠ e) (hce : c ≠ e) (h1 : ch (s b) (1 - d) = some c) (h2 : ch (s c) d = some e)
    (fc : Fine D (rotL s c e (1 - d)) c xc) (fe : Fine D (rotL s c e (1 - d)) e xe)
    (fb : Fine D (rotL (up (rot s c e (1 - d) xc xe) b (setC (rot s c e (1 - d) xc xe b) (1 - d) (some e))) b e d) b xb) (fe' : Fine D (rotL (up (rot s c e (1 - d) xc xe) b (setC (rot s c e (1 - d) xc xe b) (1 - d) (some e))) b e d) e xe)
    (hk : ∀ w', MS w' D (rot2 s b c e d xb xc xe) → Fr (fun y => y = b ∨ y = c ∨ y = e) w w' → k (.pointer (some ⟨e, 0, none⟩)) w') : F49 k (some ⟨b, 0, none⟩) ((d : Nat) : Int) w := by
  unfold F49
  refine F50_call (F50_spec hd (back_int ?_))
  refine drw_intro fun w1 f1 z1 => ?_
  have m1 := h.fr0 f1
  simp only [NN_mk, add_mk, Nat.zero_add, Int.toNat_natCast]
  refine Req_iff.2 ⟨by omega, ld_ch m1 hb (by omega) ?_⟩
  rw [h1]
  have ed : 1 - (1 - d) = d := by omega
  refine F48_call (F48_spec (b := c) (c := e) (d := 1 - d) (xb := xc) (xc := xe) m1 (by omega) hc he hce (by rw [ed]; exact h2) fc fe fun w2 m2 f2 => back_ptr ?_)
  refine Req_iff.2 ⟨by omega, ?_⟩
  show Store1 ⟨b, 3 + (1 - d), none⟩ (.pointer (oA (some e))) _ w2
  refine st_ch m2 hb (by omega) fun w3 m3 f3 z3 => ?_
  refine F48_call (F48_spec (b := b) (c := e) (d := d) (xb := xb) (xc := xe) m3 hd hb he hbe (by rw [up_same, ch_setC]) fb fe' fun w4 m4 f4 => back_ptr (hk w4 m4 ?_))
  exact (((f1.mono fun _ h => h.elim).trans f2 fun y h => .inl (.inr h)).trans f3 fun y h => .inl (.inl h)).trans f4 fun y h => .inl (h.elim .inl fun h => .inr (.inr h))
end
end Go.Proofs.Ythapmkjmfkmnoaa.E
