/-
  Range trees of skip lists: the steps of a statement (rtSteps).
-/
import Derived.Test.YtfokodpnoiilbaaGreatQA
namespace Go.Proofs.YtfokodpnoiilbaaGreat.E
open Go
set_option linter.unusedSimpArgs false
set_option linter.unusedVariables false
set_option maxRecDepth 100000
set_option maxHeartbeats 8000000

structure okE (n : Nat) (e : EnD) : Prop where
  op : e.op = 1 ∨ e.op = 2 ∨ e.op = 3 ∨ e.op = 4 ∨ e.op = 6
  dots : ∀ x ∈ e.dots, x.1.length = n ∧ PosP x
  ll : e.low.length ≤ n
  hl : e.high.length ≤ n
  lo : ∀ v ∈ e.low, 0 ≤ v ∧ v < 12
  hi : ∀ v ∈ e.high, 0 ≤ v ∧ v < 28
  h4 : e.op = 4 → e.high.length = n
def totE (es : List EnD) : Nat := (es.map fun e => e.dots.length).sum
theorem totE_app (a b : List EnD) : totE (a ++ b) = totE a + totE b := by unfold totE; rw [List.map_append, List.sum_append]
theorem posP_of {l : List Int} {v : Int} (h : ∀ v ∈ l, 0 ≤ v ∧ v < 12) : PosP (l, v) := fun i => by have := plI_pos h i; exact ⟨this.1, by have := this.2; show plI l i < _; omega⟩
section
variable {w : World} {k : Value → W} {n : Nat} {mp kp : Option Addr} {mc kc : Nat} {rs : List (Nat → Int)} {ks : List Int}
theorem F4_J2_spec {base : Nat} {p : Option Addr} {c : Nat} {es : List EnD} (h : StD w base p es.length c es) (hb : base ≤ w.heap.size) (ok : ∀ e ∈ es, okE n e) (hl : es.length ≤ 60) (ht : totE es ≤ 60)
    (hk : ∀ w' p c es, StD w' base p es.length c es → (∀ e ∈ es, okE n e) → es.length ≤ 61 → totE es ≤ 61 → Fr (fun b => base ≤ b) w w' → k (.slice p es.length c) w') : F4_J2 k p es.length c w := by
  unfold F4_J2
  refine StD.snoc (e := ⟨6, none, [], 0, none, [], 0, none, [], 0, 0⟩) h hb (SlO.nil _ _) (Sl.nil _ _ _) (Sl.nil _ _ _) (fun b ⟨_, h, _⟩ => by cases h) (fun a ha x hx ⟨_, h, _⟩ => by cases h) (by omega) fun p' c' w' h' f' => ?_
  have := hk w' p' c' (es ++ [⟨6, none, [], 0, none, [], 0, none, [], 0, 0⟩]) (by rw [List.length_append]; exact h') (fun e he => ?_) (by simp; omega) (by rw [totE_app]; show totE es + 0 ≤ 61; omega) (f'.mono fun b hb' => .inl (h.bp b hb'))
  · rw [List.length_append] at this; exact this
  · rcases List.mem_append.1 he with he | he
    · exact ok e he
    · rw [List.mem_singleton] at he; subst he
      exact ⟨.inr (.inr (.inr (.inr rfl))), fun x hx => (by cases hx), Nat.zero_le _, Nat.zero_le _, fun v hv => (by cases hv), fun v hv => (by cases hv), fun h => by cases h⟩
/-- A further entry of the last step. -/
theorem F4_J1t {again : Int → Option Addr → Nat → Nat → Option Addr → Nat → Nat → Option Addr → Nat → Nat → Int → Int → W} {base n20 n36 : Nat} {sp yp : Option Addr} {sc yc ml mc' kl kc' : Nat} {mp' kp' : Option Addr} {pre : List EnD} {la : EnD} {l : List Int} {v op nn ii : Int} {L : Nat}
    (hL : L = pre.length + 1) (hS : StD w base sp L sc (pre ++ [la])) (hb : base ≤ w.heap.size) (hel : pre.length < 60) (hdl : la.dots.length < 100000) (h36 : ¬ bl la.dp n36) (b36 : Blk w n36 42 [.slice yp l.length yc, .int .i64 v]) (hy : Sl In64K w yp l)
    (hk : ∀ w' p' c', StD w' base sp L sc (pre ++ [{ la with dp := p', dots := la.dots ++ [(l, v)], dc := c' }]) → Fr (fun b => base ≤ b) w w' → again ((n : Nat) : Int) mp' ml mc' kp' kl kc' sp L sc nn (addI .i64 ii 1) w') :
    F4_J1 k again ((n : Nat) : Int) mp' ml mc' kp' kl kc' sp L sc nn ii ⟨n20, 0, none⟩ op ⟨n36, 0, none⟩ true w := by
  subst hL
  unfold F4_J1
  rw [BIf_true]
  refine drw_intro fun w1 f1 z1 => ?_
  have hS1 := hS.fr0 f1
  obtain ⟨q, rest, rfl, hB⟩ := hS1.own.get (by omega)
  have hla : (pre ++ [la])[pre.length]? = some la := by rw [List.getElem?_append_right (Nat.le_refl _), Nat.sub_self]; rfl
  have hcell : ∀ {w' : World}, OwnN w' 31 9 (some ⟨q, 0, none⟩) (pre.length + 1) sc (flatD (pre ++ [la])) → w'.cell? ⟨q, 0 + pre.length * 9 + 2, none⟩ = some (.slice la.dp la.dots.length la.dc) := fun h => by
    rw [Nat.zero_add, h.cell (by omega), flatD_get _ _ 2 la hla (by omega)]; rfl
  have esub : subI .i64 ((pre.length + 1 : Nat) : Int) 1 = ((pre.length : Nat) : Int) := by rw [subI_i64 (by omega) (by omega)]; omega
  rw [esub]
  simp only [NN_mk, Int.toNat_natCast, add_mk, Nat.zero_add]
  have hc1 := hcell hS1.own
  rw [Nat.zero_add] at hc1
  refine Req_iff.2 ⟨by omega, LoadT_slice.2 ⟨_, _, _, hc1, ?_⟩⟩
  have b1 := b36.fr f1 id
  refine load_slice (i := 0) b1 rfl (load_int (i := 1) b1 rfl ?_)
  refine bld_do (y := ⟨yp, yc, l, v⟩) (hy.fr0 f1) fun n2 w2 e2 b2 hy2 f2 z2 => ?_
  have hS2 := hS1.fr0 f2
  have hc2 := hcell hS2.own
  rw [Nat.zero_add] at hc2
  refine ⟨hc2, ?_⟩
  obtain ⟨O2, _, _, hbp⟩ := hS2.en la (List.mem_append_right _ (List.mem_singleton.2 rfl))
  refine app_do O2 b2 hy2 (by omega) fun p3 c3 w3 f3 O3 hp3 => ?_
  have T3 : Tys (fun b => bl la.dp b) w2 [42] := O2.ty
  have b23 : Blk w3 n36 42 [.slice yp l.length yc, .int .i64 v] := (b1.fr f2 id).fr f3 h36
  refine chk (i := 0) b23 rfl (chk (i := 1) b23 rfl ?_)
  have hB2 := hB.fr f2 id
  have hB3 := blk_ty hB2 f3 T3 (by decide)
  refine Req_iff.2 ⟨by omega, store_intro hB3 (by rw [List.length_append, flatD_len, List.length_append]; simp; omega) rfl fun w4 b4 f4 z4 => ?_⟩
  have z02 := (f1.trans f2 fun _ h => h.elim).size
  have := hS2.turn (x := (l, v)) (by omega) f3 O3 hp3 (fun us hu => by rw [(hu.unique hB3).2]; exact b4) f4
  refine hk w4 p3 c3 this ?_
  exact (((f1.mono fun _ h => h.elim).trans f2 fun _ h => h.elim).trans f3 fun b hb' => .inl (hbp b hb')).trans f4 fun b hb' => .inl (by have hb' : b = q := hb'; rw [hb']; exact hS.bp q ⟨_, rfl, rfl⟩)
end
end Go.Proofs.YtfokodpnoiilbaaGreat.E
