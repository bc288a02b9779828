/-
  Range trees in memory: an entry's values; a node is added, or taken.
-/
import Derived.Test.YtfokodpnoiilbaaR2
import Derived.Test.YtfokodpnoiilbaaFnsH
import Derived.Test.YtfokodpnoiilbaaFnsD
namespace Go.Proofs.Ytfokodpnoiilbaa.E
open Go
set_option linter.unusedSimpArgs false
set_option linter.unusedVariables false
set_option maxRecDepth 100000
set_option maxHeartbeats 8000000

/-! ## Plain: the place in a sorted list -/
section
variable {β : Type}
theorem ins_at {v : Int} {f : β → β} {x0 : β} : ∀ {L : List (Int × β)}, L.Pairwise (fun p q => p.1 < q.1) →
    (∀ y, L[lbd v (L.map Prod.fst)]? = some (v, y) → lkp v L = some y ∧ insL v f x0 L = L.set (lbd v (L.map Prod.fst)) (v, f y)) ∧
    ((∀ y, L[lbd v (L.map Prod.fst)]? ≠ some (v, y)) → lkp v L = none ∧ insL v f x0 L = L.take (lbd v (L.map Prod.fst)) ++ (v, x0) :: L.drop (lbd v (L.map Prod.fst)))
  | [], _ => ⟨fun y h => by simp at h, fun _ => ⟨rfl, rfl⟩⟩
  | p :: L, h => by
    obtain ⟨h1, h2⟩ := List.pairwise_cons.1 h
    obtain ⟨i1, i2⟩ := ins_at (v := v) (f := f) (x0 := x0) h2
    by_cases hlt : p.1 < v
    · have e : lbd v ((p :: L).map Prod.fst) = lbd v (L.map Prod.fst) + 1 := by show (if p.1 < v then _ else _) = _; rw [if_pos hlt]
      have l1 : lkp v (p :: L) = lkp v L := by show (if p.1 = v then _ else _) = _; rw [if_neg (by omega)]
      have l2 : insL v f x0 (p :: L) = p :: insL v f x0 L := by show (if p.1 < v then _ else _) = _; rw [if_pos hlt]
      rw [e, l1, l2]
      refine ⟨fun y hy => ?_, fun hy => ?_⟩
      · obtain ⟨a, b⟩ := i1 y (by simpa using hy)
        exact ⟨a, by rw [b]; rfl⟩
      · obtain ⟨a, b⟩ := i2 fun y h => hy y (by simpa using h)
        exact ⟨a, by rw [b]; rfl⟩
    · have e : lbd v ((p :: L).map Prod.fst) = 0 := by show (if p.1 < v then _ else _) = _; rw [if_neg hlt]
      rw [e]
      refine ⟨fun y hy => ?_, fun hy => ?_⟩
      · have hp : p = (v, y) := by simpa using hy
        have e1 : p.1 = v := by rw [hp]
        constructor
        · show (if p.1 = v then _ else _) = _; rw [if_pos e1, hp]
        · show (if p.1 < v then _ else if p.1 = v then _ else _) = _; rw [if_neg hlt, if_pos e1, hp]; rfl
      · have e1 : p.1 ≠ v := fun e => hy p.2 (by rw [← e]; rfl)
        constructor
        · show (if p.1 = v then _ else _) = _
          rw [if_neg e1]
          exact lkp_gt fun q hq => by have := h1 q hq; omega
        · show (if p.1 < v then _ else if p.1 = v then _ else _) = _; rw [if_neg hlt, if_neg e1]; rfl
end
def plI (l : List Int) (d : Nat) : Int := if d < 1 then 0 else l.getD (d - 1) 0
section
variable {w : World} {k : Value → W}
theorem F162_dt {p : Option Addr} {c d : Nat} {l : List Int} (h : Sl In64K w p l) (hl : l.length < 1000) (hd : d < 1000) (hk : k (.int .i64 (plI l d)) w) : F162 k p l.length c ((d : Nat) : Int) w := by
  unfold F162
  unfold plI at hk
  by_cases h1 : d < 1
  · rw [decide_eq_true (show ((d : Nat) : Int) < 1 by omega), BIf_true]
    rw [if_pos h1] at hk; exact hk
  · rw [decide_eq_false (show ¬ ((d : Nat) : Int) < 1 by omega), BIf_false, wrap_u64 (by omega) (by omega)]
    rw [if_neg h1] at hk
    by_cases h2 : d > l.length
    · rw [decide_eq_true (show ((d : Nat) : Int) > ((l.length : Nat) : Int) by omega), BIf_true]
      rw [List.getD_eq_getElem?_getD, List.getElem?_eq_none (by omega)] at hk; exact hk
    · rw [decide_eq_false (show ¬ ((d : Nat) : Int) > ((l.length : Nat) : Int) by omega), BIf_false]
      have hx : l[d - 1]? = some (l[d - 1]'(by omega)) := List.getElem?_eq_getElem (by omega)
      rw [List.getD_eq_getElem?_getD, hx] at hk
      generalize l[d - 1]'(by omega) = x at hx hk
      obtain ⟨q, o, rfl, g0⟩ := h.get hx
      have g0 : w.cell? ⟨q, o + (d - 1), none⟩ = some (.int .i64 x) := by
        have : w.cell? ⟨q, o + (d - 1) * 1 + 0, none⟩ = some (.int .i64 x) := g0
        rw [show o + (d - 1) * 1 + 0 = o + (d - 1) by omega] at this; exact this
      rw [NN_mk, subI_u64 (by omega) (by omega), show ((d : Nat) : Int) - 1 = ((d - 1 : Nat) : Int) by omega, Int.toNat_natCast, add_mk]
      exact Req_iff.2 ⟨by omega, LoadT_int.2 ⟨_, g0, hk⟩⟩
theorem m_val (p : Option Addr) (l c : Nat) (i j : Int) (w : World) : (callMethod (.iface 192 (.agg #[.slice p l c, .int .i64 i])) "ValueAtDimension" [.int .u64 j].toArray).run Try.prog w = .ok (.enter 165 #[.agg #[.slice p l c, .int .i64 i], .int .u64 j]) w := by kernel_rfl
theorem val_intro {x : Dtn} {d : Nat} {f : Int → W} (h : DtOk w x) (hd : d < 1000) (hk : ∀ w', Fr (fun _ => False) w w' → f (plI x.pos d) w') : NextT Try.prog (callMethod x.v "ValueAtDimension" [.int .u64 ((d : Nat) : Int)].toArray) (.s (.one (.int .i64))) f w := by
  refine NextT_enterR (m_val _ _ _ _ _ w) (F165_calls ?_)
  unfold F165
  refine new_intro fun n w1 e1 b1 f1 z1 => load_slice (i := 0) b1 rfl ?_
  exact F162_call (F162_dt (h.fr0 f1).1 h.2 hd (back_int (back_int (hk w1 f1))))
variable {base tb num dm pl pc : Nat} {pp : Option Addr} {D : List Nat} {s : RSt} {x : Nat}
theorem back_pb {f : Option Addr → Bool → W} {p : Option Addr} {b : Bool} (h : f p b w) : Back (.tup [(.one .ptr), (.one .bool)]) f (.returned (.tuple #[.pointer p, .bool b])) w := ⟨(p, b, ()), rfl, h⟩
/-- A node's values. -/
def keysR (s : RSt) (x : Nat) : List Int := (s x).kids.map fun c => (s c).v
/-- orderedNodes.addAt. -/
theorem F136_spec {c : Nat} (h : RM w base tb num dm pp pl pc D s) (hx : x = tb ∨ x ∈ D) (hc : c ∈ D) (hl : (s x).kids.length < 100000)
    (hk1 : (∀ old, (s x).kids[lbd (s c).v (keysR s x)]? = some old → (s old).v ≠ (s c).v) → ∀ w' p' c', RM w' base tb num dm pp pl pc D (upR s x { s x with p := p', c := c', kids := (s x).kids.take (lbd (s c).v (keysR s x)) ++ c :: (s x).kids.drop (lbd (s c).v (keysR s x)) }) → Fr (fun y => y = x ∨ bl (s x).p y) w w' → k (.pointer none) w')
    (hk2 : ∀ old, (s x).kids[lbd (s c).v (keysR s x)]? = some old → (s old).v = (s c).v → ∀ w', RM w' base tb num dm pp pl pc D (upR s x { s x with kids := (s x).kids.set (lbd (s c).v (keysR s x)) c }) → Fr (fun y => y = x ∨ bl (s x).p y) w w' → k (.pointer (some ⟨old, 0, none⟩)) w') :
    F136 k (some (la tb x)) ((lbd (s c).v (keysR s x) : Nat) : Int) (some ⟨c, 0, none⟩) w := by
  have hle := lbd_le (s c).v (keysR s x)
  have hkl : (keysR s x).length = (s x).kids.length := by unfold keysR; rw [List.length_map]
  generalize hi : lbd (s c).v (keysR s x) = i at *
  obtain ⟨o, hla, ho1, ho2⟩ := la_eq tb x
  have hB := h.blk hx
  have hO := h.own x hx
  have hcell : ∀ {w' : World} {f : Option Addr → Nat → Nat → W}, RM w' base tb num dm pp pl pc D s → f (s x).p (s x).kids.length (s x).c w' → LoadT .slice ⟨x, o, none⟩ f w' := fun h' hf => by rw [← hla]; exact h'.cell hx hf
  unfold F136
  rw [hla]
  simp only [NN_mk]
  refine hcell h ?_
  by_cases he : i = (s x).kids.length
  · rw [show (((i : Nat) : Int) == (((s x).kids.length : Nat) : Int)) = true by rw [beq_iff_eq]; omega, BIf_true]
    refine hcell h ?_
    refine end_put hB (bsC_len ho1 ho2) hO (fun y hy e => h.own_ne hx hx y hy e) hl fun w' p' c' B' O' hp f' => ?_
    have hkk : (s x).kids.take i ++ c :: (s x).kids.drop i = (s x).kids ++ [c] := by rw [he, List.take_length, List.drop_length]
    refine hk1 (fun old hold => by rw [he, List.getElem?_eq_none (Nat.le_refl _)] at hold; cases hold) w' p' c' ?_ f'
    rw [hkk]
    have el : (s x).kids.length + 1 = ((s x).kids ++ [c]).length := by simp
    rw [el] at B' O'
    rw [bsC_set tb num dm pp pl pc x (s x) p' c' _ ho1 ho2] at B'
    exact h.kids hx B' O' hp f' fun d hd => by
      rcases List.mem_append.1 hd with hd | hd
      · exact h.kd x hx d hd
      · rw [List.mem_singleton] at hd; rw [hd]; exact hc
  · rw [show (((i : Nat) : Int) == (((s x).kids.length : Nat) : Int)) = false by rw [beq_eq_false_iff_ne]; omega, BIf_false]
    refine drw_intro fun w1 f1 z1 => ?_
    have h1 := h.fr0 f1
    refine hcell h1 ?_
    have hil : i < (s x).kids.length := by omega
    have hold : (s x).kids[i]? = some (s x).kids[i] := List.getElem?_eq_getElem hil
    generalize (s x).kids[i] = old at hold
    have hoD : old ∈ D := h.kd x hx old (List.mem_of_getElem? hold)
    obtain ⟨q, rest, hp, hBq, hqc, hqm⟩ := (h1.own x hx).get (by omega)
    have cellq : ∀ {f : Option Addr → W}, f (some ⟨old, 0, none⟩) w1 → LoadT .ptr ⟨q, i, none⟩ f w1 := fun hf => load_ptr hBq (by rw [List.getElem?_append_left (by simp; omega), ptrs_get, hold]; rfl) hf
    rw [hp]
    simp only [NN_mk, Int.toNat_natCast, add_mk, Nat.zero_add]
    refine Req_iff.2 ⟨by omega, cellq ?_⟩
    simp only [NN_mk]
    refine load_int (i := 0) (h1.nodes old hoD) rfl (load_int (i := 0) (h1.nodes c hc) rfl ?_)
    by_cases hv : (s old).v = (s c).v
    · rw [show ((s old).v == (s c).v) = true by rw [beq_iff_eq]; exact hv, BIf_true]
      refine hcell h1 ?_
      rw [hp]
      simp only [NN_mk, Int.toNat_natCast, add_mk, Nat.zero_add]
      refine Req_iff.2 ⟨by omega, cellq ?_⟩
      refine hcell h1 ?_
      rw [hp]
      simp only [NN_mk, Int.toNat_natCast, add_mk, Nat.zero_add]
      refine Req_iff.2 ⟨by omega, store_intro hBq (by simp; omega) rfl fun w2 b2 f2 z2 => ?_⟩
      have b2 : Blk w2 q 221 (ptrs ((s x).kids.set i c) ++ rest) := by
        have e : (ptrs (s x).kids ++ rest).set i (.pointer (some ⟨c, 0, none⟩)) = ptrs ((s x).kids.set i c) ++ rest := by
          rw [List.set_append_left _ _ (by simp; omega)]
          unfold ptrs
          rw [List.map_set]
        rw [← e]; exact b2
      have fq : Fr (fun y => y = x ∨ bl (s x).p y) w1 w2 := f2.mono fun y hy => .inl (.inr (by rw [hp]; exact bl_q.2 hy))
      have f02 : Fr (fun y => y = x ∨ bl (s x).p y) w w2 := (f1.mono fun _ h => h.elim).trans fq fun y hy => .inl hy
      have hqx : x ≠ q := fun e => by
        have := h.own_ne hx hx q (by rw [hp]; exact bl_q.2 rfl)
        exact this e.symm
      have hlen : ((s x).kids.set i c).length = (s x).kids.length := by simp
      have hBx := (h1.blk hx).fr f2 hqx
      refine hk2 old hold hv w2 ?_ f02
      have := h1.kids (w' := w2) (x := x) (p' := (s x).p) (c' := (s x).c) (kids' := (s x).kids.set i c) hx ?_ ?_ (fun y hy => .inl hy) fq fun d hd => ?_
      · exact this
      · have e : bsC tb num dm pp pl pc x { s x with kids := (s x).kids.set i c } = bsC tb num dm pp pl pc x (s x) := by
          unfold bsC topc rdc; simp only [hlen]
        show Blk w2 x (bsT tb x) (bsC tb num dm pp pl pc x { s x with kids := (s x).kids.set i c })
        rw [e]; exact hBx
      · rw [hp]
        exact Own.mk' b2 (by simp) (by rw [← hqc]; simp) hqm
      · rcases List.mem_or_eq_of_mem_set hd with hd | hd
        · exact h.kd x hx d hd
        · rw [hd]; exact hc
    · rw [show ((s old).v == (s c).v) = false by rw [beq_eq_false_iff_ne]; exact hv, BIf_false]
      refine hcell h1 ?_
      refine mid_put (nb := c) (h1.blk hx) (bsC_len ho1 ho2) (h1.own x hx) (fun y hy e => h.own_ne hx hx y hy e) hil hl fun w' p' c' B' O' hp' f' => ?_
      have el : (s x).kids.length + 1 = ((s x).kids.take i ++ c :: (s x).kids.drop i).length := by simp; omega
      rw [el] at B' O'
      rw [bsC_set tb num dm pp pl pc x (s x) p' c' _ ho1 ho2] at B'
      refine hk1 (fun old' h' => by rw [hold] at h'; cases h'; exact hv) w' p' c' (h1.kids hx B' O' hp' f' fun d hd => ?_) ((f1.mono fun _ h => h.elim).trans f' fun y hy => .inl hy)
      rcases List.mem_append.1 hd with hd | hd
      · exact h.kd x hx d (List.mem_of_mem_take hd)
      · rcases List.mem_cons.1 hd with rfl | hd
        · exact hc
        · exact h.kd x hx d (List.mem_of_mem_drop hd)
/-- orderedNodes.add. -/
theorem F127_spec {c : Nat} (h : RM w base tb num dm pp pl pc D s) (hx : x = tb ∨ x ∈ D) (hc : c ∈ D) (hs : (keysR s x).Pairwise (· < ·)) (hl : (s x).kids.length < 100000)
    (hk1 : (∀ old, (s x).kids[lbd (s c).v (keysR s x)]? = some old → (s old).v ≠ (s c).v) → ∀ w' p' c', RM w' base tb num dm pp pl pc D (upR s x { s x with p := p', c := c', kids := (s x).kids.take (lbd (s c).v (keysR s x)) ++ c :: (s x).kids.drop (lbd (s c).v (keysR s x)) }) → Fr (fun y => y = x ∨ bl (s x).p y) w w' → k (.pointer none) w')
    (hk2 : ∀ old, (s x).kids[lbd (s c).v (keysR s x)]? = some old → (s old).v = (s c).v → ∀ w', RM w' base tb num dm pp pl pc D (upR s x { s x with kids := (s x).kids.set (lbd (s c).v (keysR s x)) c }) → Fr (fun y => y = x ∨ bl (s x).p y) w w' → k (.pointer (some ⟨old, 0, none⟩)) w') :
    F127 k (some (la tb x)) (some ⟨c, 0, none⟩) w := by
  unfold F127
  refine drw_intro fun w1 f1 z1 => ?_
  have h1 := h.fr0 f1
  simp only [NN_mk]
  refine h1.cell hx (load_int (i := 0) (h1.nodes c hc) rfl ?_)
  refine F134_call (F134_spec h1 hx hs hl fun w2 f2 => back_int ?_)
  have f02 : Fr (fun y => y = x ∨ bl (s x).p y) w w2 := (f1.trans f2 fun _ h => h.elim).mono fun _ h => h.elim
  refine F136_call (F136_spec (h1.fr0 f2) hx hc hl (fun hn w' p' c' r' f' => back_ptr (hk1 hn w' p' c' r' (f02.trans f' fun y hy => .inl hy))) fun old ho hv w' r' f' => back_ptr (hk2 old ho hv w' r' (f02.trans f' fun y hy => .inl hy)))
end
end Go.Proofs.Ytfokodpnoiilbaa.E
