/-
  Range trees: Add.
-/
import Derived.Test.YtfokodpnoiilbaaR6
import Derived.Test.YtfokodpnoiilbaaS9
namespace Go.Proofs.Ytfokodpnoiilbaa.E
open Go
set_option linter.unusedSimpArgs false
set_option linter.unusedVariables false
set_option maxRecDepth 100000
set_option maxHeartbeats 8000000

theorem Fy.new {base : Nat} {w w1 w2 : World} {S : Nat → Prop} : Fy base w w1 → Fr S w1 w2 → (∀ b, S b → w.heap.size ≤ b) → Fy base w w2 := fun ⟨S0, f, h, g⟩ f2 hS => ⟨S0, f.trans f2 fun y hy => .inr (hS y hy), h, g⟩
theorem Fy.size {base : Nat} {w w1 : World} : Fy base w w1 → w.heap.size ≤ w1.heap.size := fun ⟨S0, f, h⟩ => f.size
theorem Fy.own {base : Nat} {w w' : World} {e : TypeId} {p : Option Addr} {l c : Nat} {vs : List Value} (h : Own w e p l c vs) (f : Fy base w w') (ht : e ≠ 224 ∧ e ≠ 188 ∧ e ≠ 221) : Own w' e p l c vs := by
  obtain ⟨S, f, hS, _⟩ := f
  refine h.fr f fun b hb hs => ?_
  obtain ⟨us, hu⟩ := h.blk hb
  have := hS b e us hs hu
  simp only [List.mem_cons, List.not_mem_nil, or_false] at this
  rcases this with e | e | e
  · exact ht.1 e
  · exact ht.2.1 e
  · exact ht.2.2 e
theorem kyD_pos {e e' : Dtn} (h : e.pos = e'.pos) : ∀ m i, kyD e m i = kyD e' m i
  | 0, _ => rfl
  | m + 1, i => by unfold kyD; rw [h, kyD_pos h m]
theorem kyD_len (e : Dtn) : ∀ m i, (kyD e m i).length = m
  | 0, _ => rfl
  | m + 1, i => by unfold kyD; rw [List.length_cons, kyD_len e m]
section
variable {w : World} {k : Value → W} {base tb num dm pl pc B : Nat} {pp : Option Addr} {D : List Nat} {s : RSt} {x : Nat}
theorem RM.numT {w' : World} {num' : Nat} (h : RM w base tb num dm pp pl pc D s) (f : Fr (fun y => y = tb) w w') (b : Blk w' tb 188 (topc (s tb) num' dm pp pl pc)) : RM w' base tb num' dm pp pl pc D s :=
  ⟨fun b hb => (h.nodes b hb).fr f fun e => h.tbD (e ▸ hb), b, fun b hb => (h.own b hb).fr f fun y hy e => h.own_ne hb (.inl rfl) y hy e, h.dj, h.kd, fun b hb x hx => (h.ok b hb x hx).fr f fun y u us hs hu => by
    have hs : y = tb := hs
    subst hs
    have := (hu.unique h.top).1
    rw [this]; decide, h.lo⟩
theorem keys_new {c : Nat} {n : Rd} (h : RM w base tb num dm pp pl pc D s) (hx : x = tb ∨ x ∈ D) (nD : c ∉ D) (nt : c ≠ tb) : keysR (upR s c n) x = keysR s x := by
  unfold keysR
  rw [upR_ne (neD nD nt hx)]
  exact List.map_congr_left fun a ha => by rw [upR_ne (neD nD nt (.inr (h.kd x hx a ha)))]
/-- orderedTree.add. -/
theorem F118_spec {e : Dtn} (h : RM w base tb num dm pp pl pc D s) (hi : RIn tb B dm tb D s) (he : DtOk w e) (hd1 : 1 ≤ dm) (hdm : dm < 1000) (hB : B < 90000) (hn : num < 1000000000)
    (hk : ∀ w' s' D' r, RPost tb B dm 1 e tb D s D' s' r → RM w' base tb (num + if r = none then 1 else 0) dm pp pl pc D' s' → Fy base w w' → k (.pointer (r.map fun o => ⟨o, 0, none⟩)) w') :
    F118 k (some ⟨tb, 0, none⟩) e.v w := by
  unfold F118
  rw [NN_mk]
  refine F118_L1_rule (I := fun ot en li i w0 => ∃ m x D s, ot = some ⟨tb, 0, none⟩ ∧ en = e.v ∧ li = la tb x ∧ m + 1 ≤ dm ∧ i = ((dm - m : Nat) : Int) ∧ RM w0 base tb num dm pp pl pc D s ∧ RIn tb B (m + 1) x D s ∧ DtOk w0 e ∧ ∀ w' s' D' r, RPost tb B (m + 1) (dm - m) e x D s D' s' r → RM w' base tb (num + if r = none then 1 else 0) dm pp pl pc D' s' → Fy base w0 w' → k (.pointer (r.map fun o => ⟨o, 0, none⟩)) w')
    (μ := fun ot en li i w0 => (dm + 1 - i : Int).toNat) ?_ ⟨dm - 1, tb, D, s, rfl, rfl, (if_pos rfl).symm, by omega, by rw [show dm - (dm - 1) = 1 by omega]; rfl, h, by rw [show dm - 1 + 1 = dm by omega]; exact hi, he, by rw [show dm - 1 + 1 = dm by omega, show dm - (dm - 1) = 1 by omega]; exact hk⟩
  rintro _ _ _ _ w0 ⟨m, x, D, s, rfl, rfl, rfl, hm, rfl, h, hi, he, hk⟩
  unfold F118_L1
  simp only [NN_mk, add_mk, Nat.zero_add]
  refine load_int (i := 2) h.top rfl ?_
  rw [decide_eq_true (show ((dm - m : Nat) : Int) ≤ ((dm : Nat) : Int) by omega), BIf_true]
  refine load_int (i := 2) h.top rfl ?_
  have hkl : (s x).kids.length < 100000 := by have := hi.b2 x List.mem_cons_self; omega
  cases m with
  | zero =>
    refine F126_call (F126_yes (by omega) (back_bool ?_))
    rw [BIf_true]
    refine val_intro he (by omega) fun w1 f1 => ?_
    have h1 := h.fr0 f1
    rw [Nat.sub_zero] at hk ⊢
    refine F128_call (F128_spec h1 (he.fr0 f1) fun w2 c n nD nt nl nv nk ne h2 f2 => back_ptr ?_)
    have ne : n.e = some e := by rw [ne]; rfl
    have hxc : x ≠ c := neD nD nt hi.hx
    have hx2 : x = tb ∨ x ∈ c :: D := hi.hx.imp id fun h => List.mem_cons_of_mem _ h
    have es : upR s c n x = s x := upR_ne hxc
    have ec : upR s c n c = n := upR_same _ _ _
    have ek := keys_new (n := n) h1 hi.hx nD nt
    have fin : ∀ (w' : World) (s' : RSt) (r : Option Nat), RPost tb B (0 + 1) dm e x D s (c :: D) s' r → RM w' base tb num dm pp pl pc (c :: D) s' → Fy base w0 w' →
        (BIf (r.map fun o => (⟨o, 0, none⟩ : Addr)).isNone (
          NN (some (⟨tb, 0, none⟩ : Addr)) fun a17 =>
          LoadT (.int .u64) (a17.add 1) fun x18 =>
          Store1 (a17.add 1) (.int .u64 (addI .u64 x18 1)) <|
          k (.pointer (r.map fun o => ⟨o, 0, none⟩))) (
          k (.pointer (r.map fun o => ⟨o, 0, none⟩)))) w' := fun w' s' r hp h' f' => by
      cases r with
      | none =>
        rw [show (Option.map (fun o : Nat => (⟨o, 0, none⟩ : Addr)) none).isNone = true from rfl, BIf_true, NN_mk]
        simp only [add_mk, Nat.zero_add]
        refine load_int (i := 1) h'.top rfl ?_
        rw [addI_u64 (by omega) (by omega)]
        refine store_intro (i := 1) h'.top (by simp [topc]) rfl fun w3 b3 f3 z3 => ?_
        have b3 : Blk w3 tb 188 (topc (s' tb) (num + 1) dm pp pl pc) := by
          have e1 : ((num : Nat) : Int) + 1 = ((num + 1 : Nat) : Int) := by omega
          rw [e1] at b3; exact b3
        exact hk w3 s' (c :: D) none hp (h'.numT f3 b3) (f'.trans (Fy.of f3 (fun b u us hb hu => by have := Tys.one h'.top b u us hb hu; simp at this; rw [this]; simp) fun b hb => by have hb : b = tb := hb; have := (h'.lo tb (.inl rfl)).1; omega))
      | some o =>
        rw [show (Option.map (fun o : Nat => (⟨o, 0, none⟩ : Addr)) (some o)).isNone = false from rfl, BIf_false]
        exact hk w' s' (c :: D) (some o) hp h' f'
    have fy1 : Fy base w0 w2 := .of0 (f1.trans f2 fun _ h => h.elim)
    refine F127_call (F127_spec h2 hx2 List.mem_cons_self (by rw [ek]; exact sr_keys hi.sr) (by rw [es]; exact hkl) (fun hno w' p' c' h' f' => back_ptr ?_) fun old ho hv w' h' f' => back_ptr ?_)
    · rw [ec, es, ek, nv] at h' hno
      refine fin w' _ none (RPost.put (p' := p') (c' := c') h hi nD nt nk nv ne fun old hold hv => hno old hold ?_) h' (fy1.trans (h2.fy hx2 f'))
      rw [upR_ne (neD nD nt (.inr (h.kd x hi.hx old (List.mem_of_getElem? hold))))]
      exact hv
    · rw [ec, es, ek, nv] at h'
      rw [ec, es, ek, nv] at ho
      rw [ec, nv, upR_ne (neD nD nt (.inr (h.kd x hi.hx old (List.mem_of_getElem? ho))))] at hv
      have := RPost.set (p' := (s x).p) (c' := (s x).c) h hi nD nt nk nv ne ho hv
      exact fin w' _ (some old) this h' (fy1.trans (h2.fy hx2 f'))
  | succ m =>
    refine F126_call (F126_no (by omega) (by omega) (back_bool ?_))
    rw [BIf_false]
    refine load_int (i := 2) h.top rfl ?_
    have hii : dm - (m + 1) + 1 = dm - m := by omega
    have hadd : addI .u64 ((dm - (m + 1) : Nat) : Int) 1 = ((dm - m : Nat) : Int) := by rw [addI_u64 (by omega) (by omega)]; omega
    refine F129_call (F129_spec h hi.hx he (by omega) (by omega) (sr_keys hi.sr) hkl (fun old ho hv w' h' f' => back_pb ?_) fun hno w' c n p' c' nD nt nv nk ne h' f' => back_pb ?_)
    · rw [NN_mk, add_mk, Nat.zero_add, hadd]
      have hoD : old ∈ D := h.kd x hi.hx old (List.mem_of_getElem? ho)
      have hot : old ≠ tb := fun e => h.tbD (e ▸ hoD)
      refine ⟨⟨m, old, D, s, by trivial, by trivial, (if_neg hot).symm, by omega, by trivial, h', RIn.found h hi (List.mem_of_getElem? ho), he.fr0 f', fun w1 s1 D1 r hp h1 f1 => ?_⟩, by omega⟩
      exact hk w1 s1 D1 r (RPost.found h hi ho hv (by rw [hii]; exact hp)) h1 ((Fy.of0 f').trans f1)
    · rw [NN_mk, add_mk, Nat.zero_add, hadd]
      refine ⟨⟨m, c, c :: D, _, by trivial, by trivial, (if_neg nt).symm, by omega, by trivial, h', RIn.fresh (p' := p') (c' := c') h hi nD nt nk, f'.dt he, fun w1 s1 D1 r hp h1 f1 => ?_⟩, by omega⟩
      exact hk w1 s1 D1 r (RPost.fresh h hi nD nt nk nv hno (by rw [hii]; exact hp)) h1 (f'.trans f1)
end
end Go.Proofs.Ytfokodpnoiilbaa.E
