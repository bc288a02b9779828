/-
  Range trees in memory: a node is looked for, or put in (getOrAdd).
-/
import Derived.Test.YtfokodpnoiilbaaR3
namespace Go.Proofs.Ytfokodpnoiilbaa.E
open Go
set_option linter.unusedSimpArgs false
set_option linter.unusedVariables false
set_option maxRecDepth 100000
set_option maxHeartbeats 8000000

/-- What turns is of the tree's types, and not old. -/
def Fy (base : Nat) (w w' : World) : Prop := ∃ S, Fr S w w' ∧ Tys S w [224, 188, 221] ∧ ∀ b, S b → base ≤ b
theorem Fy.of {base : Nat} {S : Nat → Prop} {w w' : World} (f : Fr S w w') (h : Tys S w [224, 188, 221]) (hb : ∀ b, S b → base ≤ b) : Fy base w w' := ⟨S, f, h, hb⟩
theorem Fy.of0 {base : Nat} {w w' : World} (f : Fr (fun _ => False) w w') : Fy base w w' := ⟨_, f, fun _ _ _ h => h.elim, fun _ h => h.elim⟩
theorem Fy.trans {base : Nat} {w w1 w2 : World} : Fy base w w1 → Fy base w1 w2 → Fy base w w2 := fun ⟨S, f, h, g⟩ ⟨S2, f2, h2, g2⟩ => ⟨fun y => S y ∨ S2 y, (f.mono fun y hy => .inl (.inl hy)).trans f2 fun y hy => .inl (.inr hy), fun b u us hb hB => by
  by_cases hS : S b
  · exact h b u us hS hB
  · rcases hb with hb | hb
    · exact h b u us hb hB
    · exact h2 b u us hb (hB.fr f hS), fun b hb => hb.elim (g b) (g2 b)⟩
theorem Fy.blk {base : Nat} {w w' : World} {b t : Nat} {us : List Value} (h : Blk w b t us) (f : Fy base w w') (ht : t ≠ 224 ∧ t ≠ 188 ∧ t ≠ 221) : Blk w' b t us := by
  obtain ⟨S, f, hS, _⟩ := f
  refine h.fr f fun hs => ?_
  have := hS b t us hs h
  simp only [List.mem_cons, List.not_mem_nil, or_false] at this
  rcases this with e | e | e
  · exact ht.1 e
  · exact ht.2.1 e
  · exact ht.2.2 e
theorem Fy.dt {base : Nat} {w w' : World} {x : Dtn} (h : DtOk w x) (f : Fy base w w') : DtOk w' x := by
  obtain ⟨S, f, hS, _⟩ := f
  exact h.fr f fun b u us hs hB => by
    have := hS b u us hs hB
    simp only [List.mem_cons, List.not_mem_nil, or_false] at this
    rcases this with e | e | e <;> rw [e] <;> decide
section
variable {w : World} {k : Value → W} {base tb num dm pl pc : Nat} {pp : Option Addr} {D : List Nat} {s : RSt} {x : Nat}
theorem RM.fy {w' : World} (h : RM w base tb num dm pp pl pc D s) (hx : x = tb ∨ x ∈ D) (f : Fr (fun y => y = x ∨ bl (s x).p y) w w') : Fy base w w' := Fy.of f (fun b u us hb hu => by
  rcases hb with rfl | hb
  · have := (hu.unique (h.blk hx)).1
    rw [this]; unfold bsT; split <;> simp
  · obtain ⟨us', hu'⟩ := (h.own x hx).blk hb
    rw [(hu.unique hu').1]; simp)
  (fun b hb => by
    rcases hb with rfl | hb
    · exact (h.lo b hx).1
    · exact (h.lo x hx).2 b hb)
theorem F126_no {i : Nat} (hi : i < dm) (hdm : dm < 1000) (hk : k (.bool false) w) : F126 k ((dm : Nat) : Int) ((i : Nat) : Int) w := by
  unfold F126
  rw [decide_eq_false (show ¬ ((i : Nat) : Int) ≥ ((dm : Nat) : Int) by omega)]
  exact bind_intro hk
theorem F126_yes {i : Nat} (hi : dm ≤ i) (hk : k (.bool true) w) : F126 k ((dm : Nat) : Int) ((i : Nat) : Int) w := by
  unfold F126
  rw [decide_eq_true (show ((i : Nat) : Int) ≥ ((dm : Nat) : Int) by omega)]
  exact bind_intro hk
/-- orderedNodes.getOrAdd. -/
theorem F129_spec {e : Dtn} {i : Nat} (h : RM w base tb num dm pp pl pc D s) (hx : x = tb ∨ x ∈ D) (he : DtOk w e) (hi : i < dm) (hdm : dm < 1000) (hs : (keysR s x).Pairwise (· < ·)) (hl : (s x).kids.length < 100000)
    (hk1 : ∀ old, (s x).kids[lbd (plI e.pos i) (keysR s x)]? = some old → (s old).v = plI e.pos i → ∀ w', RM w' base tb num dm pp pl pc D s → Fr (fun _ => False) w w' → k (.tuple #[.pointer (some ⟨old, 0, none⟩), .bool false]) w')
    (hk2 : (∀ old, (s x).kids[lbd (plI e.pos i) (keysR s x)]? = some old → (s old).v ≠ plI e.pos i) → ∀ w' c n p' c', c ∉ D → c ≠ tb → n.v = plI e.pos i → n.kids = [] → n.e = none → RM w' base tb num dm pp pl pc (c :: D) (upR (upR s c n) x { s x with p := p', c := c', kids := (s x).kids.take (lbd (plI e.pos i) (keysR s x)) ++ c :: (s x).kids.drop (lbd (plI e.pos i) (keysR s x)) }) → Fy base w w' → k (.tuple #[.pointer (some ⟨c, 0, none⟩), .bool true]) w') :
    F129 k (some (la tb x)) e.v ((i : Nat) : Int) ((dm : Nat) : Int) w := by
  have hle := lbd_le (plI e.pos i) (keysR s x)
  have hkl : (keysR s x).length = (s x).kids.length := by unfold keysR; rw [List.length_map]
  generalize hv : plI e.pos i = v at *
  generalize hj : lbd v (keysR s x) = j at *
  obtain ⟨o, hla, ho1, ho2⟩ := la_eq tb x
  have hcell : ∀ {w' : World} {D : List Nat} {s : RSt} {f : Option Addr → Nat → Nat → W}, RM w' base tb num dm pp pl pc D s → (x = tb ∨ x ∈ D) → f (s x).p (s x).kids.length (s x).c w' → LoadT .slice ⟨x, o, none⟩ f w' := fun h' hx hf => by rw [← hla]; exact h'.cell hx hf
  unfold F129
  refine F126_call (F126_no hi hdm (back_bool ?_))
  refine val_intro he (by omega) fun w1 f1 => ?_
  rw [hla, hv]
  simp only [NN_mk]
  have h1 := h.fr0 f1
  refine hcell h1 hx ?_
  refine F134_call (F134_spec h1 hx hs hl fun w2 f2 => back_int ?_)
  rw [show lbd v ((s x).kids.map fun c => (s c).v) = j from hj]
  have h2 := h1.fr0 f2
  have f02 : Fr (fun _ => False) w w2 := f1.trans f2 fun _ h => h.elim
  have he2 := he.fr0 f02
  refine hcell h2 hx ?_
  -- a new node
  have nw : ∀ {w3 : World} {c : Nat} {n : Rd}, c ∉ D → c ≠ tb → w2.heap.size ≤ c → n.kids = [] → RM w3 base tb num dm pp pl pc (c :: D) (upR s c n) → x ≠ c ∧ upR s c n x = s x := fun {w3 c n} nD nt _ _ _ => by
    have hne : x ≠ c := fun e => by
      rcases hx with hx | hx
      · exact nt (by rw [← e]; exact hx)
      · exact nD (e ▸ hx)
    exact ⟨hne, upR_ne hne⟩
  have hx' : ∀ {c : Nat}, x = tb ∨ x ∈ c :: D := fun {c} => hx.imp id fun h => List.mem_cons_of_mem _ h
  by_cases hend : j = (s x).kids.length
  · rw [show (((j : Nat) : Int) == (((s x).kids.length : Nat) : Int)) = true by rw [beq_iff_eq]; omega, BIf_true]
    refine F128_call (F128_spec h2 he2 fun w3 c n nD nt nl nv nk ne h3 f3 => back_ptr ?_)
    obtain ⟨hne, hsx⟩ := nw nD nt nl nk h3
    refine hcell h3 hx' ?_
    rw [hsx]
    have hB := h3.blk hx'
    have hO := h3.own x hx'
    rw [hsx] at hB hO
    refine end_put hB (bsC_len ho1 ho2) hO (fun y hy e => h3.own_ne hx' hx' y (by rw [hsx]; exact hy) e) hl fun w' p' c' B' O' hp f' => ?_
    have hkk : (s x).kids.take j ++ c :: (s x).kids.drop j = (s x).kids ++ [c] := by rw [hend, List.take_length, List.drop_length]
    refine hk2 (fun old hold => by rw [hend, List.getElem?_eq_none (Nat.le_refl _)] at hold; cases hold) w' c n p' c' nD nt nv nk (by rw [ne]; rfl) ?_ ?_
    · rw [hkk]
      have el : (s x).kids.length + 1 = ((s x).kids ++ [c]).length := by simp
      rw [el] at B' O'
      rw [bsC_set tb num dm pp pl pc x (s x) p' c' _ ho1 ho2] at B'
      have := h3.kids (w' := w') (x := x) (p' := p') (c' := c') (kids' := (s x).kids ++ [c]) hx' (by rw [hsx]; exact B') O' (by rw [hsx]; exact hp) (by rw [hsx]; exact f') fun d hd => by
        rcases List.mem_append.1 hd with hd | hd
        · exact List.mem_cons_of_mem _ (h.kd x hx d hd)
        · rw [List.mem_singleton] at hd; rw [hd]; exact List.mem_cons_self
      rw [hsx] at this
      exact this
    · exact (Fy.of0 (f02.trans f3 fun _ h => h.elim)).trans (h3.fy hx' (by rw [hsx]; exact f'))
  · rw [show (((j : Nat) : Int) == (((s x).kids.length : Nat) : Int)) = false by rw [beq_eq_false_iff_ne]; omega, BIf_false]
    refine hcell h2 hx ?_
    have hil : j < (s x).kids.length := by omega
    have hold : (s x).kids[j]? = some (s x).kids[j] := List.getElem?_eq_getElem hil
    generalize (s x).kids[j] = old at hold
    have hoD : old ∈ D := h.kd x hx old (List.mem_of_getElem? hold)
    obtain ⟨q, rest, hp, hBq, hqc, hqm⟩ := (h2.own x hx).get (by omega)
    have cellq : ∀ {f : Option Addr → W}, f (some ⟨old, 0, none⟩) w2 → LoadT .ptr ⟨q, j, none⟩ f w2 := fun hf => load_ptr hBq (by rw [List.getElem?_append_left (by simp; omega), ptrs_get, hold]; rfl) hf
    rw [hp]
    simp only [NN_mk, Int.toNat_natCast, add_mk, Nat.zero_add]
    refine Req_iff.2 ⟨by omega, cellq ?_⟩
    simp only [NN_mk]
    refine load_int (i := 0) (h2.nodes old hoD) rfl ?_
    by_cases hvv : (s old).v = v
    · rw [show ((s old).v == v) = true by rw [beq_iff_eq]; exact hvv, BIf_true]
      refine hcell h2 hx ?_
      rw [hp]
      simp only [NN_mk, Int.toNat_natCast, add_mk, Nat.zero_add]
      refine Req_iff.2 ⟨by omega, cellq ?_⟩
      exact hk1 old hold hvv w2 h2 f02
    · rw [show ((s old).v == v) = false by rw [beq_eq_false_iff_ne]; exact hvv, BIf_false]
      refine F128_call (F128_spec h2 he2 fun w3 c n nD nt nl nv nk ne h3 f3 => back_ptr ?_)
      obtain ⟨hne, hsx⟩ := nw nD nt nl nk h3
      refine hcell h3 hx' ?_
      rw [hsx]
      have hB := h3.blk hx'
      have hO := h3.own x hx'
      rw [hsx] at hB hO
      refine mid_put (nb := c) hB (bsC_len ho1 ho2) hO (fun y hy e => h3.own_ne hx' hx' y (by rw [hsx]; exact hy) e) hil hl fun w' p' c' B' O' hp' f' => ?_
      refine hk2 (fun old' h' => by rw [hold] at h'; cases h'; exact hvv) w' c n p' c' nD nt nv nk (by rw [ne]; rfl) ?_ ?_
      · have el : (s x).kids.length + 1 = ((s x).kids.take j ++ c :: (s x).kids.drop j).length := by simp; omega
        rw [el] at B' O'
        rw [bsC_set tb num dm pp pl pc x (s x) p' c' _ ho1 ho2] at B'
        have := h3.kids (w' := w') (x := x) (p' := p') (c' := c') (kids' := (s x).kids.take j ++ c :: (s x).kids.drop j) hx' (by rw [hsx]; exact B') O' (by rw [hsx]; exact hp') (by rw [hsx]; exact f') fun d hd => by
          rcases List.mem_append.1 hd with hd | hd
          · exact List.mem_cons_of_mem _ (h.kd x hx d (List.mem_of_mem_take hd))
          · rcases List.mem_cons.1 hd with rfl | hd
            · exact List.mem_cons_self
            · exact List.mem_cons_of_mem _ (h.kd x hx d (List.mem_of_mem_drop hd))
        rw [hsx] at this
        exact this
      · exact (Fy.of0 (f02.trans f3 fun _ h => h.elim)).trans (h3.fy hx' (by rw [hsx]; exact f'))
end
end Go.Proofs.Ytfokodpnoiilbaa.E
