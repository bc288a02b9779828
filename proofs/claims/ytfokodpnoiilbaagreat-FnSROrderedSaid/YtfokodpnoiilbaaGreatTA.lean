/-
  Ordered range trees: a node is taken out of a list.
-/
import Derived.Test.YtfokodpnoiilbaaGreatTT
namespace Go.Proofs.YtfokodpnoiilbaaGreat.E
open Go
set_option linter.unusedSimpArgs false
set_option linter.unusedVariables false
set_option maxRecDepth 100000
set_option maxHeartbeats 8000000

theorem bsC_get {tb num dm : Nat} {pp : Option Addr} {pl pc x : Nat} {n : Rd} {o : Nat} (h1 : x = tb → o = 0) (h2 : x ≠ tb → o = 2) : (bsC tb num dm pp pl pc x n)[o]? = some (.slice n.p n.kids.length n.c) := by
  unfold bsC
  by_cases e : x = tb
  · rw [if_pos e, h1 e]; rfl
  · rw [if_neg e, h2 e]; rfl
theorem shift_out {α : Type} {l rest : List α} {y : α} {i : Nat} (hi : i < l.length) :
    ((l ++ rest).take i ++ l.drop (i + 1) ++ (l ++ rest).drop (i + (l.drop (i + 1)).length)).set (l.length - 1) y = (l.take i ++ l.drop (i + 1)) ++ y :: rest := by
  have hlen : (l.take i ++ l.drop (i + 1)).length = l.length - 1 := by simp; omega
  have e1 : (l ++ rest).take i = l.take i := List.take_append_of_le_length (by omega)
  have hd : i + (l.drop (i + 1)).length = l.length - 1 := by simp; omega
  rw [e1, hd, List.set_append_right _ _ (by omega), hlen, Nat.sub_self, List.drop_append_of_le_length (by omega)]
  have : l.drop (l.length - 1) = [l[l.length - 1]'(by omega)] := by
    rw [← List.getElem_cons_drop (by omega : l.length - 1 < l.length), List.drop_eq_nil_of_le (by omega)]
  rw [this]; rfl
section
variable {w : World} {k : Value → W} {base tb num dm pl pc B : Nat} {pp : Option Addr} {D : List Nat} {s : RSt} {x : Nat}
/-- orderedNodes.deleteAt. -/
theorem F110_spec {i : Nat} (h : RM w base tb num dm pp pl pc D s) (hx : x = tb ∨ x ∈ D) (hil : i < (s x).kids.length) (hl : (s x).kids.length < 100000)
    (hk : ∀ w' c, (s x).kids[i]? = some c → RM w' base tb num dm pp pl pc D (upR s x { s x with p := (s x).p, c := (s x).c, kids := cutK s x i }) → Fr (fun y => y = x ∨ bl (s x).p y) w w' → k (.pointer (some ⟨c, 0, none⟩)) w') :
    F110 k (some (la tb x)) ((i : Nat) : Int) w := by
  obtain ⟨o, hla, ho1, ho2⟩ := la_eq tb x
  have hB := h.blk hx
  have hO := h.own x hx
  have hus := bsC_get (tb := tb) (num := num) (dm := dm) (pp := pp) (pl := pl) (pc := pc) (n := s x) ho1 ho2
  have hxq := h.own_ne hx hx
  have hlen1 : ∀ u ∈ ptrs (s x).kids, u.oneCell' = true := ptrs_one _
  have hold : (s x).kids[i]? = some (s x).kids[i] := List.getElem?_eq_getElem hil
  generalize (s x).kids[i] = old at hold
  obtain ⟨ie, g1, g2, g3, g4⟩ := inf221
  obtain ⟨q, rest, hp, hBq, hqc, hqm⟩ := hO.get (by omega)
  have hqx : x ≠ q := fun e => hxq q (by rw [hp]; exact bl_q.2 rfl) e.symm
  have hkl : (ptrs (s x).kids).length = (s x).kids.length := ptrs_length _
  have hcc : (s x).kids.length + rest.length = (s x).c := by rw [← hqc, List.length_append, hkl]
  unfold F110
  rw [hla]
  simp only [NN_mk]
  refine load_slice hB hus ?_
  rw [decide_eq_false (show ¬ ((i : Nat) : Int) ≥ (((s x).kids.length : Nat) : Int) by omega), BIf_false]
  refine load_slice hB hus ?_
  rw [hp]
  simp only [NN_mk, Int.toNat_natCast, add_mk, Nat.zero_add]
  refine Req_iff.2 ⟨by omega, load_ptr hBq (by rw [List.getElem?_append_left (by omega), ptrs_get, hold]; rfl) ?_⟩
  refine drw_intro fun w1 f1 z1 => ?_
  have hB1 := hB.fr f1 id
  have hq1 := hBq.fr f1 id
  refine load_slice hB1 hus (Req_iff.2 ⟨by omega, ?_⟩)
  refine load_slice hB1 hus ?_
  rw [addI_i64 (by omega) (by omega), show ((i : Nat) : Int) + 1 = ((i + 1 : Nat) : Int) by omega]
  refine Req_iff.2 ⟨by omega, ?_⟩
  simp only [Int.toNat_natCast]
  rw [hp, sliceAi (show i < (s x).c by omega)]
  -- behind the copy
  have fin : ∀ w4, Blk w4 q 172 ((ptrs (s x).kids ++ rest).take i ++ (ptrs (s x).kids).drop (i + 1) ++ (ptrs (s x).kids ++ rest).drop (i + ((ptrs (s x).kids).drop (i + 1)).length)) → Fr (fun b => b = q) w1 w4 →
      (Chk1 ⟨x, o, none⟩ (.slice (s x).p (s x).kids.length (s x).c) <|
       Chk1 ⟨x, o, none⟩ (.slice (s x).p (s x).kids.length (s x).c) <|
       Drw <|
       LoadT .slice ⟨x, o, none⟩ fun s15p s15l s15c =>
       LoadT .slice ⟨x, o, none⟩ fun s17p s17l s17c =>
       NN s15p fun a18 =>
       Req (0 ≤ subI .i64 ((s17l : Nat) : Int) 1 ∧ subI .i64 ((s17l : Nat) : Int) 1 < ((s15l : Nat) : Int)) <|
       Store1 (a18.add ((subI .i64 ((s17l : Nat) : Int) 1).toNat)) (.pointer none) <|
       Drw <|
       LoadT .slice ⟨x, o, none⟩ fun s20p s20l s20c =>
       LoadT .slice ⟨x, o, none⟩ fun s22p s22l s22c =>
       Req (0 ≤ subI .i64 ((s22l : Nat) : Int) 1 ∧ subI .i64 ((s22l : Nat) : Int) 1 ≤ ((s20c : Nat) : Int)) <|
       Store1 ⟨x, o, none⟩ (.slice (sliceA s20p 0 s20c 1) (((subI .i64 ((s22l : Nat) : Int) 1).toNat) - 0) (s20c - 0)) <|
       k (.pointer (some ⟨old, 0, none⟩))) w4 := fun w4 b4 f4 => by
    have hB4 := hB1.fr f4 hqx
    refine chk hB4 hus (chk hB4 hus (drw_intro fun w5 f5 z5 => ?_))
    have hB5 := hB4.fr f5 id
    have b5 := b4.fr f5 id
    refine load_slice hB5 hus (load_slice hB5 hus ?_)
    rw [hp, NN_mk, subI_i64 (by omega) (by omega), show (((s x).kids.length : Nat) : Int) - 1 = (((s x).kids.length - 1 : Nat) : Int) by omega, Int.toNat_natCast, add_mk, Nat.zero_add]
    refine Req_iff.2 ⟨by omega, store_intro b5 (by simp; omega) rfl fun w6 b6 f6 z6 => ?_⟩
    have hs := shift_out (l := ptrs (s x).kids) (rest := rest) (y := Value.pointer none) (i := i) (by omega)
    rw [hkl] at hs
    rw [hs] at b6
    have hB6 := hB5.fr f6 hqx
    refine drw_intro fun w7 f7 z7 => ?_
    have hB7 := hB6.fr f7 id
    have b7 := b6.fr f7 id
    refine load_slice hB7 hus (load_slice hB7 hus ?_)
    rw [subI_i64 (by omega) (by omega), show (((s x).kids.length : Nat) : Int) - 1 = (((s x).kids.length - 1 : Nat) : Int) by omega, Int.toNat_natCast]
    refine Req_iff.2 ⟨by omega, ?_⟩
    rw [hp, sliceAi (show 0 < (s x).c by omega), Nat.sub_zero, Nat.sub_zero]
    refine store_intro hB7 (bsC_len ho1 ho2) rfl fun w8 b8 f8 z8 => ?_
    have hcl : (cutK s x i).length = (s x).kids.length - 1 := by unfold cutK; simp; omega
    rw [← hp, ← hcl, bsC_set tb num dm pp pl pc x (s x) (s x).p (s x).c _ ho1 ho2] at b8
    have fq : ∀ {wa wb : World}, Fr (fun b => b = q) wa wb → Fr (fun y => y = x ∨ bl (s x).p y) wa wb := fun f => f.mono fun y hy => .inl (.inr (by rw [hp]; exact bl_q.2 hy))
    have f08 : Fr (fun y => y = x ∨ bl (s x).p y) w w8 := ((((((f1.mono fun _ h => h.elim).trans (fq f4) fun _ h => .inl h).trans f5 fun _ h => h.elim).trans (fq f6) fun _ h => .inl h).trans f7 fun _ h => h.elim).trans f8 fun y hy => .inl (.inl hy))
    have hO8 : Own w8 172 (s x).p (cutK s x i).length (s x).c (ptrs (cutK s x i)) := by
      have e : ptrs (cutK s x i) = (ptrs (s x).kids).take i ++ (ptrs (s x).kids).drop (i + 1) := by
        unfold cutK ptrs
        rw [List.map_append, List.map_take, List.map_drop]
      rw [e, hp]
      refine Own.mk' (rest := .pointer none :: rest) (b7.fr f8 (fun e => hqx e.symm)) ?_ ?_ hqm
      · rw [← e, ptrs_length]
      · rw [List.length_append, ← e, ptrs_length, hcl, List.length_cons]; omega
    exact hk w8 old hold (h.kids hx b8 hO8 (fun y hy => .inl hy) f08 fun d hd => by
      rcases List.mem_append.1 hd with hd | hd
      · exact h.kd x hx d (List.mem_of_mem_take hd)
      · exact h.kd x hx d (List.mem_of_mem_drop hd)) f08
  by_cases hlast : i + 1 = (s x).kids.length
  · refine copy_none und186 (by rw [g1, Option.map_some, g3]) (by omega) ?_
    rw [← hp]
    refine fin w1 ?_ (Fr.refl _ _)
    have e : (ptrs (s x).kids).drop (i + 1) = [] := List.drop_eq_nil_of_le (by omega)
    rw [e, List.append_nil, List.length_nil, Nat.add_zero, List.take_append_drop]
    exact hq1
  · rw [sliceAi (show i + 1 < (s x).c by omega)]
    refine copy_intro (src := (ptrs (s x).kids).drop (i + 1)) und186 (by rw [g1, Option.map_some, g3]) hq1 (by rw [List.length_drop]; omega) (fun j u hj => ?_) (by simp; omega) (fun u hu' => hlen1 u (List.mem_of_mem_drop hu')) fun w4 b4 f4 z4 => ?_
    · rw [add_mk, hq1.cell]
      rw [List.getElem?_drop] at hj
      have := (List.getElem?_eq_some_iff.1 hj).1
      rw [List.getElem?_append_left (by omega)]; exact hj
    · rw [← hp]
      exact fin w4 b4 f4
end
end Go.Proofs.YtfokodpnoiilbaaGreat.E
