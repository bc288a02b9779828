/-
  A y-fast trie: an entry inserted.
-/
import Derived.Test.YtaacaokocamlcaaDoorYC
namespace Go.Proofs.YtaacaokocamlcaaDoor.E
open Go
set_option linter.unusedSimpArgs false
set_option linter.unusedVariables false
set_option maxRecDepth 100000
set_option maxHeartbeats 8000000

def bup (bd : Nat → Option Bd) (k0 : Nat) (d : Bd) : Nat → Option Bd := fun k => if k = k0 then some d else bd k
theorem bup_some {bd : Nat → Option Bd} {k0 k : Nat} {d d' : Bd} (h : bup bd k0 d k = some d') : (k = k0 ∧ d' = d) ∨ (k ≠ k0 ∧ bd k = some d') := by
  unfold bup at h
  split at h
  · rename_i e; exact .inl ⟨e, (Option.some.inj h).symm⟩
  · rename_i e; exact .inr ⟨e, h⟩
theorem bup_none {bd : Nat → Option Bd} {k0 k : Nat} {d : Bd} (h : bup bd k0 d k = none) : k ≠ k0 ∧ bd k = none := by
  unfold bup at h
  split at h
  · cases h
  · rename_i e; exact ⟨e, h⟩
section
variable {w w' : World} {t B x : Nat} {s : PSt} {Sx : Nat → Prop} {xs : XSt} {bd : Nat → Option Bd} {y : Itm}
theorem ins_other {q : Nat} (h : bk B q ≠ bk B y.1) : (s.ins y).m q = s.m q := if_neg fun e => h (by rw [e])
theorem bk_other {k : Nat} {es : List Itm} (hk : k ≠ bk B y.1) (h : Bk es fun q => if bk B q = k then s.m q else none) : Bk es fun q => if bk B q = k then (s.ins y).m q else none := by
  have e : (fun q => if bk B q = k then (s.ins y).m q else none) = fun q => if bk B q = k then s.m q else none := by
    funext q
    split
    · rename_i h2; exact ins_other (by rw [h2]; exact hk)
    · rfl
  rw [e]; exact h
theorem bk_same {es : List Itm} (h : Bk es fun q => if q = y.1 then some y.2 else (if bk B q = bk B y.1 then s.m q else none)) : Bk es fun q => if bk B q = bk B y.1 then (s.ins y).m q else none := by
  have e : (fun q => if bk B q = bk B y.1 then (s.ins y).m q else none) = fun q => if q = y.1 then some y.2 else (if bk B q = bk B y.1 then s.m q else none) := by
    funext q
    show (if bk B q = bk B y.1 then (if q = y.1 then some y.2 else s.m q) else none) = _
    by_cases hq : q = y.1
    · subst hq; simp
    · simp [hq]
  rw [e]; exact h
theorem YH.upd (H : YH w t B s x Sx xs bd) {d : Bd} {p' : Option Addr} {c' : Nat} {es' : List Itm} (hb : bd (bk B y.1) = some d) (f : Fr (fun b => b = t ∨ b = d.q ∨ bl d.p b) w w')
    (hd' : Blk w' t 94 [.int .u64 ((s.ins y).num : Nat), .pointer (some ⟨x, 0, none⟩), .int .u8 (B : Nat)]) (hbq' : Blk w' d.q 107 [.int .u64 (bk B y.1 : Nat), .slice p' es'.length c']) (hbo' : Own w' 76 p' es'.length c' (es'.map EI))
    (hbk' : Bk es' fun q => if bk B q = bk B y.1 then (s.ins y).m q else none) (hp' : ∀ b, bl p' b → bl d.p b ∨ w.heap.size ≤ b) :
    YH w' t B (s.ins y) x Sx xs (bup bd (bk B y.1) ⟨d.q, p', c', es'⟩) ∧ ∀ b, YS t Sx (bup bd (bk B y.1) ⟨d.q, p', c', es'⟩) b → YS t Sx bd b ∨ w.heap.size ≤ b := by
  have hbq := H.bq _ d hb
  have hbo := H.bo _ d hb
  have hne : ∀ {b u us}, Blk w b u us → u ≠ 94 → u ≠ 107 → u ≠ 76 → ¬ (b = t ∨ b = d.q ∨ bl d.p b) := fun hb' h0 h1 h2 h => by
    rcases h with rfl | rfl | h
    · exact h0 (hb'.unique H.hd).1
    · exact h1 (hb'.unique hbq).1
    · obtain ⟨us', hu⟩ := hbo.blk h
      exact h2 (hb'.unique hu).1
  have oth : ∀ k' d1, bd k' = some d1 → k' ≠ bk B y.1 → ¬ (d1.q = t ∨ d1.q = d.q ∨ bl d.p d1.q) ∧ ∀ b, bl d1.p b → ¬ (b = t ∨ b = d.q ∨ bl d.p b) := fun k' d1 h1 hk1 => by
    have hbq1 := H.bq k' d1 h1
    refine ⟨fun h => ?_, fun b hb1 h => ?_⟩
    · rcases h with e | e | h
      · rw [e] at hbq1; exact absurd (hbq1.unique H.hd).1 (by decide)
      · rw [e] at hbq1
        have := (hbq1.unique hbq).2
        simp at this; omega
      · obtain ⟨us', hu⟩ := hbo.blk h
        exact absurd (hbq1.unique hu).1 (by decide)
    · obtain ⟨us1, hu1⟩ := (H.bo k' d1 h1).blk hb1
      rcases h with rfl | rfl | h
      · exact absurd (hu1.unique H.hd).1 (by decide)
      · exact absurd (hu1.unique hbq).1 (by decide)
      · exact H.dj k' _ d1 d h1 hb hk1 b hb1 h
  have sub : ∀ b, YS t Sx (bup bd (bk B y.1) ⟨d.q, p', c', es'⟩) b → YS t Sx bd b ∨ w.heap.size ≤ b := fun b h => by
    rcases h with h | h | ⟨k', d', h, h2⟩
    · exact .inl (.inl h)
    · exact .inl (.inr (.inl h))
    · rcases bup_some h with ⟨rfl, rfl⟩ | ⟨_, h⟩
      · rcases h2 with h2 | h2
        · exact .inl (.inr (.inr ⟨_, d, hb, .inl h2⟩))
        · exact (hp' b h2).imp (fun h => .inr (.inr ⟨_, d, hb, .inr h⟩)) id
      · exact .inl (.inr (.inr ⟨k', d', h, h2⟩))
  have ht := H.low t (.inl rfl)
  have hlt := H.hd.lt
  have xsz : ∀ {b}, Sx b → ¬ (b = t ∨ b = d.q ∨ bl d.p b) := fun {b} hb' h => by
    rcases h with rfl | rfl | h
    · exact H.nsx H.hd (by decide) hb'
    · exact H.nsx hbq (by decide) hb'
    · obtain ⟨us', hu⟩ := hbo.blk h
      exact H.nsx hu (by decide) hb'
  have low0 : ∀ b, (b = t ∨ b = d.q ∨ bl d.p b) → 2 ≤ b := fun b h => by
    rcases h with h | h | h
    · exact H.low b (.inl h)
    · exact H.low b (.inr (.inr ⟨_, d, hb, .inl h⟩))
    · exact H.low b (.inr (.inr ⟨_, d, hb, .inr h⟩))
  refine ⟨⟨hd', H.X.fr f (fun b hb' => xsz hb') (fun h => by have := low0 0 h; omega) (fun h => by have := low0 1 h; omega) fun k' v hv => ?_, fun k' => ?_, fun k' d' h => ?_, fun k' d' h => ?_, fun k' d' h => ?_, fun k' h q hq => ?_, fun k1 k2 d1 d2 h1 h2 hk z hz1 hz2 => ?_, ?_, fun b h => ?_⟩, sub⟩
  · rw [H.xm] at hv
    cases hk : bd k' with
    | none => rw [hk] at hv; cases hv
    | some d1 =>
      rw [hk] at hv; cases hv
      by_cases e : k' = bk B y.1
      · subst e; rw [hb] at hk; cases hk; exact .wrap hbq'
      · exact .wrap ((H.bq k' d1 hk).fr f (oth k' d1 hk e).1)
  · rw [H.xm]
    unfold bup
    split
    · rename_i e; rw [e, hb]; rfl
    · rfl
  · rcases bup_some h with ⟨rfl, rfl⟩ | ⟨e, h⟩
    · exact hbq'
    · exact (H.bq k' d' h).fr f (oth k' d' h e).1
  · rcases bup_some h with ⟨rfl, rfl⟩ | ⟨e, h⟩
    · exact hbo'
    · exact (H.bo k' d' h).fr f (oth k' d' h e).2
  · rcases bup_some h with ⟨rfl, rfl⟩ | ⟨e, h⟩
    · exact hbk'
    · exact bk_other e (H.bb k' d' h)
  · obtain ⟨e, h⟩ := bup_none h
    rw [ins_other (by rw [hq]; exact e)]
    exact H.b0 k' h q hq
  · rcases bup_some h1 with ⟨rfl, rfl⟩ | ⟨e1, h1⟩ <;> rcases bup_some h2 with ⟨rfl, rfl⟩ | ⟨e2, h2⟩
    · exact hk rfl
    · rcases hp' z hz1 with h | h
      · exact H.dj _ _ d d2 hb h2 (Ne.symm e2) z h hz2
      · have := (H.bo _ _ h2).lt hz2; omega
    · rcases hp' z hz2 with h | h
      · exact H.dj _ _ d1 d h1 hb e1 z hz1 h
      · have := (H.bo _ _ h1).lt hz1; omega
    · exact H.dj k1 k2 d1 d2 h1 h2 hk z hz1 hz2
  · have := H.sm
    show xs.num ≤ s.num + _; omega
  · rcases sub b h with h | h
    · exact H.low b h
    · omega
theorem YH.add (H : YH w t B s x Sx xs bd) {Sx' : Nat → Prop} {q0 : Nat} {p' : Option Addr} {c' : Nat} {es' : List Itm} (hb : bd (bk B y.1) = none) (f : Fr (fun b => b = t ∨ Sx b) w w')
    (hd' : Blk w' t 94 [.int .u64 ((s.ins y).num : Nat), .pointer (some ⟨x, 0, none⟩), .int .u8 (B : Nat)]) (X' : XT w' x B Sx' (xs.ins (bk B y.1, wrp q0))) (hSx : ∀ b, Sx' b → Sx b ∨ w.heap.size ≤ b) (hq0 : w.heap.size ≤ q0)
    (hbq' : Blk w' q0 107 [.int .u64 (bk B y.1 : Nat), .slice p' es'.length c']) (hbo' : Own w' 76 p' es'.length c' (es'.map EI))
    (hbk' : Bk es' fun q => if bk B q = bk B y.1 then (s.ins y).m q else none) (hp' : ∀ b, bl p' b → w.heap.size ≤ b) :
    YH w' t B (s.ins y) x Sx' (xs.ins (bk B y.1, wrp q0)) (bup bd (bk B y.1) ⟨q0, p', c', es'⟩) ∧ ∀ b, YS t Sx' (bup bd (bk B y.1) ⟨q0, p', c', es'⟩) b → YS t Sx bd b ∨ w.heap.size ≤ b := by
  have oth : ∀ k' d1, bd k' = some d1 → ¬ (d1.q = t ∨ Sx d1.q) ∧ ∀ b, bl d1.p b → ¬ (b = t ∨ Sx b) := fun k' d1 h1 => by
    have hbq1 := H.bq k' d1 h1
    refine ⟨fun h => ?_, fun b hb1 h => ?_⟩
    · rcases h with e | h
      · rw [e] at hbq1; exact absurd (hbq1.unique H.hd).1 (by decide)
      · exact H.nsx hbq1 (by decide) h
    · obtain ⟨us1, hu1⟩ := (H.bo k' d1 h1).blk hb1
      rcases h with rfl | h
      · exact absurd (hu1.unique H.hd).1 (by decide)
      · exact H.nsx hu1 (by decide) h
  have sub : ∀ b, YS t Sx' (bup bd (bk B y.1) ⟨q0, p', c', es'⟩) b → YS t Sx bd b ∨ w.heap.size ≤ b := fun b h => by
    rcases h with h | h | ⟨k', d', h, h2⟩
    · exact .inl (.inl h)
    · exact (hSx b h).imp (fun h => .inr (.inl h)) id
    · rcases bup_some h with ⟨rfl, rfl⟩ | ⟨_, h⟩
      · rcases h2 with rfl | h2
        · exact .inr hq0
        · exact .inr (hp' b h2)
      · exact .inl (.inr (.inr ⟨k', d', h, h2⟩))
  have ht := H.low t (.inl rfl)
  have hlt := H.hd.lt
  have hnone : s.m y.1 = none := H.b0 _ hb y.1 rfl
  refine ⟨⟨hd', X', fun k' => ?_, fun k' d' h => ?_, fun k' d' h => ?_, fun k' d' h => ?_, fun k' h q hq => ?_, fun k1 k2 d1 d2 h1 h2 hk z hz1 hz2 => ?_, ?_, fun b h => ?_⟩, sub⟩
  · show (if k' = bk B y.1 then some (wrp q0) else xs.m k') = _
    unfold bup
    split
    · rfl
    · rw [H.xm]
  · rcases bup_some h with ⟨rfl, rfl⟩ | ⟨e, h⟩
    · exact hbq'
    · exact (H.bq k' d' h).fr f (oth k' d' h).1
  · rcases bup_some h with ⟨rfl, rfl⟩ | ⟨e, h⟩
    · exact hbo'
    · exact (H.bo k' d' h).fr f (oth k' d' h).2
  · rcases bup_some h with ⟨rfl, rfl⟩ | ⟨e, h⟩
    · exact hbk'
    · exact bk_other e (H.bb k' d' h)
  · obtain ⟨e, h⟩ := bup_none h
    rw [ins_other (by rw [hq]; exact e)]
    exact H.b0 k' h q hq
  · rcases bup_some h1 with ⟨rfl, rfl⟩ | ⟨e1, h1⟩ <;> rcases bup_some h2 with ⟨rfl, rfl⟩ | ⟨e2, h2⟩
    · exact hk rfl
    · have := hp' z hz1; have := (H.bo _ _ h2).lt hz2; omega
    · have := hp' z hz2; have := (H.bo _ _ h1).lt hz1; omega
    · exact H.dj k1 k2 d1 d2 h1 h2 hk z hz1 hz2
  · have h1 := H.sm
    have h2 : (xs.ins (bk B y.1, wrp q0)).num ≤ xs.num + 1 := XSt.ins_num _ _
    show _ ≤ s.num + (if s.m y.1 = none then 1 else 0)
    rw [if_pos hnone]; omega
  · rcases sub b h with h | h
    · exact H.low b h
    · omega
theorem F45_spec {k : Value → W} {S : Nat → Prop} (h : YT w t B S s) (hy : y.1 < 2 ^ B) (hnum : s.num < 4000000000)
    (hk : ∀ S' w', YT w' t B S' (s.ins y) → (∀ b, S' b → S b ∨ w.heap.size ≤ b) → Fr S w w' → k (ovr y.1 (s.m y.1)) w') : F45 k (some ⟨t, 0, none⟩) (EI y) w := by
  obtain ⟨x, Sx, xs, bd, H, hS, hB⟩ := h
  have h64 : B ≤ 64 ∧ 0 < B := by rcases hB with rfl | rfl | rfl | rfl <;> decide
  unfold F45
  refine key_intro (KP.item y.1 y.2) fun w1 f1 => ?_
  have H1 := H.fr0 f1
  refine F58_call (F58_spec H1.hd hB hy (back_int ?_))
  simp only [NN_mk]
  refine load_ptr (i := 1) H1.hd rfl ?_
  refine F27_call (H1.X.get fun w2 f2 => back_any ?_)
  have f02 := f1.trans f2 fun _ h => h.elim
  have H2 := H.fr0 f02
  have hz2 := f02.size
  have hd2 := H2.hd
  have hplus : addI .u64 ((s.num : Nat) : Int) 1 = ((s.num + 1 : Nat) : Int) := by rw [addI_u64 (by omega) (by omega)]; rfl
  rw [H2.xm]
  cases hb : bd (bk B y.1) with
  | some d =>
    show IfaceNil (wrp d.q) _ w2
    rw [ifn_wrp]
    simp only [Bool.not_false, BIf_true]
    refine tas_wrp ?_
    simp only [NN_mk, add_mk, Nat.zero_add]
    have hbq := H2.bq _ d hb
    have hbo := H2.bo _ d hb
    have hsm := (H2.bb _ d hb).small hB
    have hpq : ¬ bl d.p d.q := fun hh => by
      obtain ⟨us, hu⟩ := hbo.blk hh
      exact absurd (hu.unique hbq).1 (by decide)
    refine F59_call (F59_spec (x := y) hbq (o := 1) rfl hpq hbo (by omega) (H2.bb _ d hb) fun es' p' c' w3 hbk hlen hbq3 hbo3 hp3 f3 => back_any ?_)
    have hbk := bk_same hbk
    rw [if_pos rfl]
    have hd3 := hd2.fr f3 fun h => by
      rcases h with e | h
      · rw [e] at hd2; exact absurd (hd2.unique hbq).1 (by decide)
      · obtain ⟨us', hu⟩ := hbo.blk h
        exact absurd (hd2.unique hu).1 (by decide)
    have hz3 := f3.size
    have fin : ∀ w4, Blk w4 t 94 [.int .u64 ((s.ins y).num : Nat), .pointer (some ⟨x, 0, none⟩), .int .u8 (B : Nat)] → Fr (fun b => b = t) w3 w4 → k (ovr y.1 (s.m y.1)) w4 := fun w4 hd4 f4 => by
      have ft : ∀ {b u us}, Blk w3 b u us → u ≠ 94 → ¬ b = t := fun hb' h1 e => by subst e; exact h1 (hb'.unique hd3).1
      have f24 : Fr (fun b => b = t ∨ b = d.q ∨ bl d.p b) w2 w4 := (f3.mono fun b h => .inl (.inr h)).trans f4 fun b h => .inl (.inl h)
      obtain ⟨H4, sub⟩ := H2.upd (y := y) hb f24 hd4 (hbq3.fr f4 (ft hbq3 (by decide))) (hbo3.fr f4 fun b hb' e => by
        obtain ⟨us, hu⟩ := hbo3.blk hb'
        exact ft hu (by decide) e) hbk hp3
      refine hk _ w4 ⟨x, Sx, xs, _, H4, fun b => Iff.rfl, hB⟩ (fun b hb' => (sub b hb').imp (fun h => (hS b).2 h) fun h => by omega) ((f02.mono fun _ h => h.elim).trans f24 fun b h => .inl ((hS b).2 ?_))
      rcases h with h | h | h
      · exact .inl h
      · exact .inr (.inr ⟨_, d, hb, .inl h⟩)
      · exact .inr (.inr ⟨_, d, hb, .inr h⟩)
    cases hm : s.m y.1 with
    | none =>
      rw [hm] at fin
      show IfaceNil .nilIface _ w3
      rw [IfaceNil_nil]
      simp only [BIf_true]
      refine load_int (i := 0) hd3 rfl ?_
      refine store_intro (i := 0) hd3 (by simp) rfl fun w4 b4 f4 z4 => fin w4 ?_ f4
      rw [hplus] at b4
      have e : (s.ins y).num = s.num + 1 := by show s.num + (if s.m y.1 = none then 1 else 0) = _; rw [if_pos hm]
      rw [e]; exact b4
    | some v =>
      rw [hm] at fin
      show IfaceNil (EI (y.1, v)) _ w3
      rw [ifn_EI]
      simp only [BIf_false]
      refine fin w3 ?_ (Fr.refl _ _)
      have e : (s.ins y).num = s.num := by show s.num + (if s.m y.1 = none then 1 else 0) = _; rw [if_neg (by rw [hm]; simp)]; rfl
      rw [e]; exact hd3
  | none =>
    have hnone : s.m y.1 = none := H.b0 _ hb y.1 rfl
    show IfaceNil .nilIface _ w2
    rw [IfaceNil_nil]
    simp only [Bool.not_true, BIf_false]
    refine load_int (i := 0) hd2 rfl ?_
    refine store_intro (i := 0) hd2 (by simp) rfl fun w3 b3 f3 z3 => ?_
    rw [hplus] at b3
    have enum : (s.ins y).num = s.num + 1 := by show s.num + (if s.m y.1 = none then 1 else 0) = _; rw [if_pos hnone]
    refine load_int (i := 2) b3 rfl ?_
    obtain ⟨i76, g1, g2, g3, g4⟩ := inf76
    refine make_intro 0 B und73 g1 g2 g3 rfl (by omega) (by omega) (by omega) fun w4 f4 o4 b4 z4 => ?_
    refine new_intro fun n20 w5 e5 b5 f5 z5 => ?_
    refine store_intro (i := 0) b5 (by simp) rfl fun w6 b6 f6 z6 => ?_
    have o5 := o4.fr f5 fun _ _ h => h
    have o6 : Own w6 76 (some ⟨w3.heap.size, 0, none⟩) 0 B (([] : List Itm).map EI) := o5.fr f6 fun b hb' e => by
      have := o4.lt hb'
      have : b = n20 := e
      omega
    have hpn : ¬ bl (some ⟨w3.heap.size, 0, none⟩ : Option Addr) n20 := fun ⟨a, h, e⟩ => by cases h; simp at e; omega
    refine F59_call (F59_spec (x := y) (es := []) (f := fun _ => none) b6 (o := 0) rfl hpn o6 (by simp) ⟨List.Pairwise.nil, fun q v => by simp⟩ fun es' p' c' w7 hbk hlen hb7 hbo7 hp7 f7 => back_any ?_)
    refine load_slice (i := 0) hb7 rfl ?_
    refine new_intro fun n23 w8 e8 b8 f8 z8 => ?_
    have f36 : Fr (fun b => b = n20) w3 w6 := (((f4.mono (S' := fun b => b = n20) fun _ h => h.elim).trans f5 fun _ h => h.elim).trans f6 fun b h => .inl h)
    have hlt3 := b3.lt
    have f38 : Fr (fun _ => False) w3 w8 := ((f36.mono fun b h => .inr (by omega)).trans f7 fun b h => ?_).trans f8 fun _ h => h.elim
    rotate_left
    · right
      rcases h with h | ⟨a, h, e⟩
      · omega
      · cases h; simp at e; omega
    have b38 := b3.fr f38 id
    have f28 : Fr (fun b => b = t) w2 w8 := f3.trans f38 fun _ h => h.elim
    have hz3 : w3.heap.size = w2.heap.size := z3
    have hz38 := f38.size
    have X8 : XT w8 x B Sx xs := H2.X.fr f28 (fun b hSb e => by have e : b = t := e; subst e; exact H2.nsx hd2 (by decide) hSb) (fun e => by have e : 0 = t := e; have := H2.low t (.inl rfl); omega) (fun e => by have e : 1 = t := e; have := H2.low t (.inl rfl); omega) fun k' v hv => by
      obtain ⟨hK, _⟩ := H2.X.kp hv
      refine hK.fr f28 fun b us hb' e => ?_
      have e : b = t := e
      subst e; exact absurd (hb'.unique hd2).1 (by decide)
    refine load_ptr (i := 1) b38 rfl ?_
    obtain ⟨i62, h1, h2, h3, h4⟩ := inf62
    have fill62 : Instr.fill (fun j => some (j * i62.size, i62.size)) ((Array.range (1 * i62.size)).map (Value.nilIface.cells[· % Value.nilIface.cells.size]!)) [(0, wrp n23)] = some [wrp n23].toArray := by rw [h3]; kernel_rfl
    refine build_intro und55 h1 h2 (by omega) (by omega) fill62 fun w9 f9 b9 z9 => ?_
    have X9 := X8.fr0 f9
    have oL : Own w9 62 (some ⟨w8.heap.size, 0, none⟩) 1 1 ([(bk B y.1, wrp n23)].map (·.2)) := ⟨rfl, .inr ⟨_, [], rfl, b9, rfl, by decide⟩⟩
    have b89 := b8.fr f9 id
    have hSL : ∀ b, bl (some ⟨w8.heap.size, 0, none⟩ : Option Addr) b → ¬ Sx b := fun b ⟨a, h, e⟩ hSb => by
      cases h
      have := X8.lt hSb
      simp at e; omega
    refine F24_call (F24_XT X9 oL hSL (fun e he => ?_) (by have := H.sm; omega) fun Sx' wa Xa hSa fa => back0 ?_)
    · simp only [List.mem_singleton] at he
      subst he
      exact ⟨.wrap b89, bk_lt hB hy⟩
    have tyS : ∀ {b u us}, Blk w9 b u us → u ≠ 82 → u ≠ 88 → u ≠ 91 → ¬ Sx b := fun hb' u1 u2 u3 h => by
      rcases X9.kinds h hb' with e | e | e
      · exact u1 e
      · exact u2 e
      · exact u3 e
    have f79 := f8.trans f9 fun _ h => h.elim
    have hn20 : n20 < w7.heap.size := hb7.lt
    have hbo9 := hbo7.fr f79 fun _ _ h => h
    have hboa := hbo9.fr fa fun b hb' => by
      obtain ⟨us, hu⟩ := hbo9.blk hb'
      exact tyS hu (by decide) (by decide) (by decide)
    have b39 := b38.fr f9 id
    have hda := b39.fr fa (tyS b39 (by decide) (by decide) (by decide))
    have hba := b89.fr fa (tyS b89 (by decide) (by decide) (by decide))
    rw [← enum] at hda
    have f2a : Fr (fun b => b = t ∨ Sx b) w2 wa := ((f28.mono fun b h => .inl (.inl h)).trans f9 fun _ h => h.elim).trans fa fun b h => .inl (.inr h)
    have hbk : Bk es' fun q => if bk B q = bk B y.1 then (s.ins y).m q else none := by
      refine bk_same ?_
      have e : (fun q => if q = y.1 then some y.2 else (if bk B q = bk B y.1 then s.m q else none)) = fun q => if q = y.1 then some y.2 else none := by
        funext q
        by_cases hq : q = y.1
        · rw [if_pos hq, if_pos hq]
        · rw [if_neg hq, if_neg hq]
          split
          · rename_i e; exact H.b0 _ hb q e
          · rfl
      rw [e]; exact hbk
    have hz79 := f79.size
    have hz9 := f9.size
    have hz37 := f7.size
    have hz36 := f36.size
    have hpp : ∀ b, bl p' b → w2.heap.size ≤ b := fun b h => by
      rcases hp7 b h with ⟨a, h, e⟩ | h
      · cases h; simp at e; omega
      · omega
    obtain ⟨Ha, sub⟩ := H2.add (y := y) hb f2a hda Xa (fun b h => (hSa b h).imp id fun h => by omega) (q0 := n23) (by omega) hba hboa hbk hpp
    have := hk _ wa ⟨x, Sx', _, _, Ha, fun b => Iff.rfl, hB⟩ (fun b hb' => (sub b hb').imp (fun h => (hS b).2 h) fun h => by omega) ((f02.mono fun _ h => h.elim).trans f2a fun b h => .inl ((hS b).2 ?_))
    · rw [hnone] at this; exact this
    · rcases h with h | h
      · exact .inl h
      · exact .inr (.inl h)
end
end Go.Proofs.YtaacaokocamlcaaDoor.E
