/-
  Skip lists: a node is deleted; iterators; a new list.
-/
import Derived.Test.YtfokodpnoiilbaaGreatS5
namespace Go.Proofs.YtfokodpnoiilbaaGreat.E
open Go
set_option linter.unusedSimpArgs false
set_option linter.unusedVariables false
set_option maxRecDepth 100000
set_option maxHeartbeats 4000000

section
variable {w : World} {sl num M L h cb pb z : Nat} {d : Int} {c : Nat → Option Nat} {ns N A B : List Nat} {g : G}
/-- The level is lowered. -/
theorem F76_L2_spec {k : Value → W} (H : HC w sl num M L h cb pb d c) (m : MS w N g) (hN : h ∈ N) (hz : z ∈ N) (hhh : g.ht h = M) (hL : L < M) (hM : M ≤ 64) (pa : ∀ i, i < M → Path (fun y => g.f y i) h (lv g.ht i ns))
    (ht : ∀ x ∈ ns, g.ht x ≤ L) {F : Nat → Prop} (hF1 : F sl) (hF2 : F (g.wb h))
    (hk : ∀ w' L', L' ≤ L → HC w' sl num M L' h cb pb d c → MS w' N g → (∀ x ∈ ns, g.ht x ≤ L') → Fr F w w' → k (g.en z) w') :
    Loop [.ptr, .ptr] (F76_L2 k) (some ⟨sl, 0, none⟩) (some ⟨z, 0, none⟩) w := by
  refine F76_L2_rule (I := fun sl' z' w' => sl' = some ⟨sl, 0, none⟩ ∧ z' = some ⟨z, 0, none⟩ ∧ ∃ L', L' ≤ L ∧ HC w' sl num M L' h cb pb d c ∧ MS w' N g ∧ (∀ x ∈ ns, g.ht x ≤ L') ∧ Fr F w w')
    (μ := fun sl' z' w' => match w'.cell? ⟨sl, 1, none⟩ with | some (.int .u8 n) => n.toNat | _ => 0) ?_ ⟨rfl, rfl, L, Nat.le_refl _, H, m, ht, Fr.refl _ _⟩
  rintro _ _ w1 ⟨rfl, rfl, L1, hL1, H, m, ht, f⟩
  have J1 : ∀ w', Fr (fun _ => False) w1 w' → F76_J1 k (some ⟨z, 0, none⟩) w' := fun w2 f2 => by
    unfold F76_J1
    rw [NN_mk]
    exact load_any (i := 2) ((m.fr0 f2).n z hz).a rfl (hk w2 L1 hL1 (H.fr0 f2) (m.fr0 f2) ht (f.trans f2 fun _ h => h.elim))
  unfold F76_L2
  refine drw_intro fun w2 f2 z2 => ?_
  have H2 := H.fr0 f2
  have m2 := m.fr0 f2
  have f02 := f.trans f2 fun _ h => h.elim
  have hh2 := m2.n h hN
  rw [NN_mk]
  refine load_int (i := 1) H2.hd rfl ?_
  refine BIf_intro (fun hc => ?_) fun _ => J1 w2 f2
  have hc := of_decide_eq_true hc
  have hsub : subI .u8 ((L1 : Nat) : Int) 1 = ((L1 - 1 : Nat) : Int) := (wrap_u8 (by omega) (by omega)).trans (by omega)
  rw [NN_mk]
  refine load_ptr (i := 2) H2.hd rfl ?_
  rw [NN_mk]
  refine load_slice (i := 0) hh2.a rfl ?_
  rw [NN_mk]
  refine load_int (i := 1) H2.hd rfl ?_
  rw [hsub]
  refine ldP hh2.f (show L1 - 1 < g.ht h by omega) ?_
  cases hn : g.f h (L1 - 1) with
  | some y => exact J1 w2 f2
  | none =>
    rw [oA_none, Option.isNone_none, BIf_true]
    refine drw_intro fun w3 f3 z3 => ?_
    have H3 := H2.fr0 f3
    have m3 := m2.fr0 f3
    have hh3 := m3.n h hN
    rw [NN_mk]
    refine load_ptr (i := 2) H3.hd rfl ?_
    rw [NN_mk]
    refine load_slice (i := 1) hh3.a rfl ?_
    rw [NN_mk]
    refine load_int (i := 1) H3.hd rfl ?_
    refine stW hh3.v (show L1 < g.ht h by omega) fun w4 e4 f4 z4 => ?_
    have H4 := H3.setW hh3.v e4 f4
    have m4 := m3.setW hh3.v e4 f4
    rw [NN_mk]
    refine load_int (i := 1) H4.hd rfl ?_
    refine store_intro (i := 1) H4.hd (by simp) rfl fun w5 b5 f5 z5 => ?_
    rw [hsub] at b5
    have H5 := H4.setH (num' := num) (L' := L1 - 1) (d' := d) b5 f5
    refine ⟨⟨rfl, rfl, L1 - 1, by omega, H5, m4.setH H4 f5, fun x hx => ?_, ((f02.trans f3 fun _ h => h.elim).trans f4 fun b hb => .inl (by rw [show b = g.wb h from hb]; exact hF2)).trans f5 fun b hb => .inl (by rw [show b = sl from hb]; exact hF1)⟩, ?_⟩
    · have hp := (pa (L1 - 1) (by omega))
      have := (show Path (fun y => g.f y (L1 - 1)) h ([] ++ lv g.ht (L1 - 1) ns) from hp).at
      have : g.f h (L1 - 1) = (lv g.ht (L1 - 1) ns).head? := this
      rw [hn] at this
      have hnil := List.head?_eq_none_iff.1 this.symm
      have h1 := List.filter_eq_nil_iff.1 hnil x hx
      simp at h1
      exact h1
    · have e1 : w5.cell? ⟨sl, 1, none⟩ = some (.int .u8 ((L1 - 1 : Nat) : Int)) := by rw [H5.hd.cell]; rfl
      have e2 : w1.cell? ⟨sl, 1, none⟩ = some (.int .u8 ((L1 : Nat) : Int)) := by rw [H.hd.cell]; rfl
      show (match w5.cell? ⟨sl, 1, none⟩ with | some (.int .u8 n) => n.toNat | _ => 0) < (match w1.cell? ⟨sl, 1, none⟩ with | some (.int .u8 n) => n.toNat | _ => 0)
      rw [e1, e2]
      show ((L1 - 1 : Nat) : Int).toNat < ((L1 : Nat) : Int).toNat
      omega
/-- The node is taken out of its chains. -/
theorem F76_L1_spec {k : Value → W} (H : HC w sl num M L h cb pb d c) (m : MS w (h :: (A ++ z :: B)) g) (hnd : (h :: (A ++ z :: B)).Nodup) (hne : ∀ y ∈ h :: (A ++ z :: B), g.fb y ≠ cb)
    (hL : L < M) (hM : M ≤ 64) (hhh : g.ht h = M) (hzL : g.ht z ≤ L) (hc : ∀ i, i ≤ L → c i = some (Lst h (lv g.ht i A))) (pa : ∀ i, i < M → Path (fun y => g.f y i) h (lv g.ht i (A ++ z :: B)))
    {F : Nat → Prop} (hF : ∀ y ∈ h :: (A ++ z :: B), F (g.fb y) ∧ F (g.wb y))
    (hk : ∀ w' f', HC w' sl num M L h cb pb d c → MS w' (h :: (A ++ z :: B)) (g.wF f') → (∀ i, i < M → Path (fun y => f' y i) h (lv g.ht i (A ++ B))) → Fr F w w' →
      Loop [.ptr, .ptr] (F76_L2 k) (some ⟨sl, 0, none⟩) (some ⟨z, 0, none⟩) w') :
    Loop [.ptr, .ptr, (.int .u8)] (F76_L1 k) (some ⟨sl, 0, none⟩) (some ⟨z, 0, none⟩) 0 w := by
  have hzN : z ∈ h :: (A ++ z :: B) := by simp
  have hp : ∀ i, i ≤ L → ∃ p ∈ h :: (A ++ z :: B), c i = some p ∧ i < g.ht p ∧ p = Lst h (lv g.ht i A) ∧ p ≠ z := fun i hi => by
    refine ⟨_, ?_, hc i hi, ?_, rfl, ?_⟩
    · rcases List.mem_cons.1 (Lst_mem h (lv g.ht i A)) with e | e
      · rw [e]; simp
      · exact List.mem_cons_of_mem _ (List.mem_append_left _ (mem_lv.1 e).1)
    · rcases List.mem_cons.1 (Lst_mem h (lv g.ht i A)) with e | e
      · rw [e, hhh]; omega
      · exact (mem_lv.1 e).2
    · rcases List.mem_cons.1 (Lst_mem h (lv g.ht i A)) with e | e
      · rw [e]; rintro rfl; exact (List.nodup_cons.1 hnd).1 (by simp)
      · intro e'
        have := (mem_lv.1 e).1
        rw [e'] at this
        exact (List.nodup_append.1 (List.nodup_cons.1 hnd).2).2.2 z this z (by simp) rfl
  have hzB : z ∉ B := (List.nodup_cons.1 (List.nodup_append.1 (List.nodup_cons.1 hnd).2).2.1).1
  have hzin : ∀ i, i < g.ht z → lv g.ht i (z :: B) = z :: lv g.ht i B := fun i hi => List.filter_cons_of_pos (by simpa using hi)
  have hzout : ∀ i, ¬ i < g.ht z → lv g.ht i (z :: B) = lv g.ht i B := fun i hi => List.filter_cons_of_neg (by simpa using hi)
  refine F76_L1_rule (I := fun sl' z' i' w' => sl' = some ⟨sl, 0, none⟩ ∧ z' = some ⟨z, 0, none⟩ ∧
      ∃ (t : Nat) (f' : Nat → Nat → Option Nat), i' = ((t : Nat) : Int) ∧ t ≤ L + 1 ∧ HC w' sl num M L h cb pb d c ∧ MS w' (h :: (A ++ z :: B)) (g.wF f') ∧ Fr F w w' ∧
        (∀ i, i < t → Path (fun y => f' y i) h (lv g.ht i (A ++ B))) ∧ (∀ i, t ≤ i → ∀ y, f' y i = g.f y i))
    (μ := fun sl' z' i' w' => L + 1 - i'.toNat) ?_
    ⟨rfl, rfl, 0, g.f, rfl, Nat.zero_le _, H, m, Fr.refl _ _, fun i hi => by omega, fun i hi y => rfl⟩
  rintro _ _ _ w1 ⟨rfl, rfl, t, f1, rfl, ht, H, m, f, hp1, hp2⟩
  unfold F76_L1
  rw [NN_mk]
  refine load_int (i := 1) H.hd rfl ?_
  by_cases htL : t ≤ L
  · rw [decide_eq_true (show ((t : Nat) : Int) ≤ ((L : Nat) : Int) by omega), BIf_true]
    obtain ⟨p, q1, q2, q3, q4, q5⟩ := hp t htL
    have hpa : Path (fun y => f1 y t) h (lv g.ht t A ++ lv g.ht t (z :: B)) := by
      rw [← lv_app]
      exact (pa t (by omega)).congr fun y _ => hp2 t (Nat.le_refl _) y
    have hat : f1 p t = (lv g.ht t (z :: B)).head? := by rw [q4]; exact hpa.at
    have P1 := m.n p q1
    have hadd : addI .u8 ((t : Nat) : Int) 1 = ((t + 1 : Nat) : Int) := add8 (by omega)
    rw [NN_mk]
    refine load_slice (i := 4) H.hd rfl (ldP H.ca (show t < M by omega) ?_)
    rw [q2, oA_some, NN_mk]
    refine load_slice (i := 0) P1.a rfl (ldP P1.f q3 ?_)
    have hfp : (g.wF f1).f p t = (lv g.ht t (z :: B)).head? := hat
    rw [hfp]
    have hko : Known w1 (oA (lv g.ht t (z :: B)).head?) := m.known fun x hx => by
      have := (mem_lv.1 (List.mem_of_mem_head? (show x ∈ (lv g.ht t (z :: B)).head? from hx))).1
      exact List.mem_cons_of_mem _ (List.mem_append_right _ this)
    refine ptr_neq hko (.inr ⟨_, _, _, rfl, (m.n z hzN).a⟩) ?_
    by_cases hin : t < g.ht z
    · rw [hzin t hin, List.head?_cons]
      rw [decide_eq_false (by simp), BIf_false]
      refine drw_intro fun w2 f2 z2 => ?_
      have H2 := H.fr0 f2
      have m2 := m.fr0 f2
      have P2 := m2.n p q1
      have Z2 := m2.n z hzN
      rw [NN_mk]
      refine load_slice (i := 4) H2.hd rfl (ldP H2.ca (show t < M by omega) ?_)
      rw [q2, oA_some, NN_mk]
      refine load_slice (i := 1) P2.a rfl (ldW P2.v q3 fun x51 => ?_)
      rw [NN_mk]
      refine load_slice (i := 1) Z2.a rfl (ldW Z2.v (show t < _ from hin) fun x55 => ?_)
      refine stW P2.v q3 fun w3 e3 f3 z3 => ?_
      refine drw_intro fun w4 f4 z4 => ?_
      have H4 := (H2.setW P2.v e3 f3).fr0 f4
      have m4 := (m2.setW P2.v e3 f3).fr0 f4
      have P4 := m4.n p q1
      have Z4 := m4.n z hzN
      rw [NN_mk]
      refine load_slice (i := 4) H4.hd rfl (ldP H4.ca (show t < M by omega) ?_)
      rw [q2, oA_some, NN_mk]
      refine load_slice (i := 0) P4.a rfl ?_
      rw [NN_mk]
      refine load_slice (i := 0) Z4.a rfl (ldP Z4.f (show t < _ from hin) ?_)
      refine stP P4.f q3 fun w5 b5 f5 z5 => ?_
      have m5 := m4.setF q1 b5 f5
      have H5 := H4.setF m4 q1 (hne p q1) f5
      have f05 : Fr F w w5 := (((f.trans f2 fun _ h => h.elim).trans f3 fun b hb => .inl (by rw [show b = g.wb p from hb]; exact (hF p q1).2)).trans f4 fun _ h => h.elim).trans f5 fun b hb => .inl (by rw [show b = g.fb p from hb]; exact (hF p q1).1)
      rw [hadd]
      refine ⟨⟨rfl, rfl, t + 1, _, rfl, by omega, H5, m5, f05, fun i hi => ?_, fun i hi y => ?_⟩, ?_⟩
      · by_cases e : i = t
        · subst e
          rw [lv_app]
          rw [hzin i hin] at hpa
          have hn2 : (h :: (lv g.ht i A ++ z :: lv g.ht i B)).Nodup := by
            rw [← hzin i hin, ← lv_app]
            exact List.nodup_cons.2 ⟨fun hm => (List.nodup_cons.1 hnd).1 (mem_lv.1 hm).1, (List.nodup_cons.1 hnd).2.filter _⟩
          refine hpa.drop hn2 ?_ fun y hy => ?_
          · rw [← q4]
            show (up f1 p (up (f1 p) i (f1 z i))) p i = f1 z i
            rw [up_same, up_same]
          · show (up f1 p (up (f1 p) i (f1 z i))) y i = f1 y i
            rw [up_ne _ _ (by rw [q4]; exact hy)]
        · refine (hp1 i (by omega)).congr fun y hy => ?_
          show (up f1 p (up (f1 p) t (f1 z t))) y i = f1 y i
          by_cases e2 : y = p
          · rw [e2, up_same, up_ne _ _ e]
          · rw [up_ne _ _ e2]
      · show (up f1 p (up (f1 p) t (f1 z t))) y i = g.f y i
        rw [← hp2 i (by omega) y]
        by_cases e2 : y = p
        · rw [e2, up_same, up_ne _ _ (show i ≠ t by omega)]
        · rw [up_ne _ _ e2]
      · show L + 1 - ((t + 1 : Nat) : Int).toNat < L + 1 - ((t : Nat) : Int).toNat
        omega
    · rw [hzout t hin] at hat hfp hpa ⊢
      rw [decide_eq_true (show oA (lv g.ht t B).head? ≠ some ⟨z, 0, none⟩ from fun e => by
        have e := oA_inj.1 (show oA (lv g.ht t B).head? = oA (some z) from e)
        exact hzB (mem_lv.1 (List.mem_of_mem_head? (show z ∈ (lv g.ht t B).head? by rw [e]; rfl))).1), BIf_true]
      rw [NN_mk]
      refine load_slice (i := 4) H.hd rfl (ldP H.ca (show t < M by omega) ?_)
      rw [q2, oA_some, NN_mk]
      refine load_slice (i := 0) P1.a rfl (ldP P1.f q3 ?_)
      have fin : ∀ w', HC w' sl num M L h cb pb d c → MS w' (h :: (A ++ z :: B)) (g.wF f1) → Fr F w w' → ∃ (t' : Nat) (f' : Nat → Nat → Option Nat), ((t + 1 : Nat) : Int) = ((t' : Nat) : Int) ∧ t' ≤ L + 1 ∧ HC w' sl num M L h cb pb d c ∧ MS w' (h :: (A ++ z :: B)) (g.wF f') ∧ Fr F w w' ∧
          (∀ i, i < t' → Path (fun y => f' y i) h (lv g.ht i (A ++ B))) ∧ (∀ i, t' ≤ i → ∀ y, f' y i = g.f y i) := fun w' H' m' fr' => by
        refine ⟨t + 1, f1, rfl, by omega, H', m', fr', fun i hi => ?_, fun i hi y => hp2 i (by omega) y⟩
        by_cases e : i = t
        · subst e; rw [lv_app]; exact hpa
        · exact hp1 i (by omega)
      rw [hadd]
      refine BIf_intro (fun _ => ?_) fun _ => ?_
      · rw [NN_mk]
        refine load_slice (i := 4) H.hd rfl (ldP H.ca (show t < M by omega) ?_)
        rw [q2, oA_some, NN_mk]
        refine load_slice (i := 1) P1.a rfl (ldW P1.v q3 fun x42 => stW P1.v q3 fun w2 e2 f2 z2 => ?_)
        refine ⟨⟨rfl, rfl, fin w2 (H.setW P1.v e2 f2) (m.setW P1.v e2 f2) (f.trans f2 fun b hb => .inl (by rw [show b = g.wb p from hb]; exact (hF p q1).2))⟩, ?_⟩
        show L + 1 - ((t + 1 : Nat) : Int).toNat < L + 1 - ((t : Nat) : Int).toNat
        omega
      · refine ⟨⟨rfl, rfl, fin w1 H m f⟩, ?_⟩
        show L + 1 - ((t + 1 : Nat) : Int).toNat < L + 1 - ((t : Nat) : Int).toNat
        omega
  · rw [decide_eq_false (show ¬ ((t : Nat) : Int) ≤ ((L : Nat) : Int) by omega), BIf_false]
    refine hk w1 f1 H m (fun i hi => ?_) f
    by_cases e : i < t
    · exact hp1 i e
    · have := (pa i hi).congr fun y _ => hp2 i (by omega) y
      rw [lv_app, hzout i (by omega), ← lv_app] at this
      exact this
end

section
variable {key : Value → Int} {w : World} {sl : Nat} {F : Nat → Prop} {vs : List Value} {q : Value} {kq : Int}
/-- delete. -/
theorem F76_spec {k : Value → W} (K : SK key w sl F vs) (hlen : vs.length < 4294967296) (hC : CmpOk key F w vs q kq)
    (hk : ∀ w' F', SK key w' sl F' (delV key kq vs) → Fr F w w' → (∀ b, F' b → F b) → k ((findV key kq vs).getD .nilIface) w') : F76 k (some ⟨sl, 0, none⟩) q w := by
  have hso := K.so
  obtain ⟨ns, g, M, L, h, cb, pb, d, c, s, rfl, rfl⟩ := K
  have hlen : ns.length < 4294967296 := by simpa using hlen
  have hdel : delV key kq (ns.map g.en) = (lo (KY key g) kq ns).map g.en ++ gtV key kq (ns.map g.en) := by rw [map_lo]; rfl
  unfold F76
  refine drw_intro fun w1 f1 z1 => ?_
  have s1 := s.fr0 f1
  rw [NN_mk]
  refine load_slice (i := 4) s1.hd rfl ?_
  rw [NN_mk]
  refine load_slice (i := 5) s1.hd rfl ?_
  by_cases h0 : ns = []
  · subst h0
    refine F71_call (F71_none s1 (back_pu ?_))
    exact hk w1 _ ⟨[], g, M, L, h, cb, pb, d, c, s1, rfl, rfl⟩ (f1.mono fun _ h => h.elim) fun b hb => hb
  refine F71_call (F71_spec (kq := kq) s1 h0 hlen (fun w' f => hC w' ((f1.mono fun _ h => h.elim).trans f fun b hb => .inl (hb.elim (fun h => .inr (.inl h)) fun h => .inr (.inr (.inl h))))) (fun x hx => List.mem_map_of_mem hx) (.inr ⟨rfl, rfl, rfl, rfl⟩) fun w2 c2 p s2 f2 hc2 => back_pu ?_)
  have hc2 := hc2 (by simp)
  have f02 : Fr (Sf sl cb pb (h :: ns) g) w w2 := (f1.mono fun _ h => h.elim).trans f2 fun b hb => .inl (hb.elim (fun h => .inr (.inl h)) fun h => .inr (.inr (.inl h)))
  have hno : findV key kq (ns.map g.en) = none → gtV key kq (ns.map g.en) = hiV key kq (ns.map g.en) → ∀ w' c', SLm key w' sl ns g M L h cb pb d c' → Fr (Sf sl cb pb (h :: ns) g) w w' → k .nilIface w' := fun e1 e2 w' c' s' f' => by
    have := hk w' _ ⟨ns, g, M, L, h, cb, pb, d, c', s', by rw [hdel, e2, ← map_hi, ← List.map_append, ← lo_hi s.so], rfl⟩ f' (fun b hb => hb)
    rw [e1] at this
    exact this
  cases hh : hi (KY key g) kq ns with
  | nil =>
    rw [List.head?_nil, oA_none, Option.isNone_none, BIf_true]
    rcases hi_head (k := kq) hso with ⟨z, B, e1, _⟩ | ⟨_, e1, e2⟩
    · rw [← map_hi, hh] at e1; cases e1
    · exact hno e1 e2 w2 c2 s2 f02
  | cons z B =>
    rw [List.head?_cons, oA_some, Option.isNone_some, BIf_false]
    have hz : z ∈ ns := (mem_hi.1 (show z ∈ hi (KY key g) kq ns by rw [hh]; exact List.mem_cons_self ..)).1
    refine F72_call (F72_spec (s2.ms.n z (List.mem_cons_of_mem _ hz)) hC f02 (List.mem_map_of_mem hz) fun w3 f3 => back_int ?_)
    rw [show (ordI (key (g.en z)) kq != 0) = !decide (key (g.en z) = kq) by rw [bne, ord_eq]]
    have s3 := s2.fr0 f3
    have f03 := f02.trans f3 fun _ h => h.elim
    by_cases he : key (g.en z) = kq
    · rw [decide_eq_true he, Bool.not_true, BIf_false]
      have hfind : findV key kq (ns.map g.en) = some (g.en z) ∧ gtV key kq (ns.map g.en) = B.map g.en := by
        rcases hi_head (k := kq) hso with ⟨z', B', e1, e2, e3, e4⟩ | ⟨h3, _⟩
        · rw [← map_hi, hh, List.map_cons] at e1
          injection e1 with e1 e1'
          rw [e3, e4, ← e1, ← e1']; exact ⟨rfl, rfl⟩
        · exact absurd he (h3 _ (List.mem_map_of_mem hz))
      generalize hA : lo (KY key g) kq ns = A at *
      have hns : ns = A ++ z :: B := by rw [← hA, ← hh]; exact lo_hi s.so
      rw [NN_mk]
      refine load_int (i := 3) s3.hd rfl ?_
      refine store_intro (i := 3) s3.hd (by simp) rfl fun w4 b4 f4 z4 => ?_
      have hlen1 : 1 ≤ ns.length := List.length_pos_iff.2 h0
      rw [show subI .u64 ((ns.length : Nat) : Int) 1 = ((ns.length - 1 : Nat) : Int) from (wrap_u64 (by omega) (by omega)).trans (by omega)] at b4
      have H4 := s3.hc.setH (num' := ns.length - 1) (L' := L) (d' := d) b4 f4
      have m4 := s3.ms.setH s3.hc f4
      have f04 := f03.trans f4 (fun b hb => .inl (.inl hb))
      have hnd := s.nd
      have hne := s.ne
      have pa := s.pa
      have hso' := s.so
      rw [hns] at m4 hnd hne pa hso'
      have hsub : ∀ y ∈ h :: (A ++ B), y ∈ h :: (A ++ z :: B) := fun y hy => by
        simp only [List.mem_cons, List.mem_append] at hy ⊢
        rcases hy with h | h | h
        · exact .inl h
        · exact .inr (.inl h)
        · exact .inr (.inr (.inr h))
      have hsub' : ∀ y ∈ A ++ B, y ∈ ns := fun y hy => by
        rw [hns]
        simp only [List.mem_append, List.mem_cons] at hy ⊢
        rcases hy with h | h
        · exact .inl h
        · exact .inr (.inr h)
      have hsl : (A ++ B).Sublist (A ++ z :: B) := List.Sublist.append (List.Sublist.refl _) (List.sublist_cons_self _ _)
      refine F76_L1_spec (F := Sf sl cb pb (h :: ns) g) H4 m4 hnd hne s.L1 s.M64 s.hh (s.ht z hz).2 (fun i hi => hc2 i hi) pa (fun y hy => ⟨.inr (.inr (.inr ⟨y, by rw [hns]; exact hy, .inr (.inl rfl)⟩)), .inr (.inr (.inr ⟨y, by rw [hns]; exact hy, .inr (.inr rfl)⟩))⟩) fun w5 f' H5 m5 pa5 f5 => ?_
      refine F76_L2_spec (ns := A ++ B) (F := Sf sl cb pb (h :: ns) g) H5 m5 (List.mem_cons_self ..) (by simp) s.hh s.L1 s.M64 pa5 (fun x hx => (s.ht x (hsub' x hx)).2) (.inl rfl) (.inr (.inr (.inr ⟨h, List.mem_cons_self .., .inr (.inr rfl)⟩))) fun w6 L6 q6 H6 m6 ht6 f6 => ?_
      have := hk w6 _ ⟨A ++ B, g.wF f', M, L6, h, cb, pb, d, c2, ⟨by
          have := H6.hd
          rw [show (A ++ B).length = ns.length - 1 by rw [hns]; simp]
          exact this, H6.ca, H6.pw, m6.mono hsub, List.nodup_cons.2 ⟨fun hm => (List.nodup_cons.1 hnd).1 (hsl.subset hm), (List.nodup_cons.1 hnd).2.sublist hsl⟩, fun y hy => hne y (hsub y hy), s.hh, s.M8, s.M64, by have := s.L1; omega,
          fun y hy => ⟨(s.ht y (hsub' y hy)).1, ht6 y hy⟩, pa5, hso'.sublist hsl, fun e i hi => by
            have eA : A = [] := List.append_eq_nil_iff.1 e |>.1
            have := hc2 i (by omega)
            rw [eA] at this
            exact this⟩, by
          rw [hdel, hfind.2, List.map_append]; rfl, rfl⟩ ((f04.trans f5 fun _ h => .inl h).trans f6 fun _ h => .inl h) (fun b hb => by
            rcases hb with h | h | h | ⟨y, hy, h⟩
            · exact .inl h
            · exact .inr (.inl h)
            · exact .inr (.inr (.inl h))
            · exact .inr (.inr (.inr ⟨y, by rw [hns]; exact hsub y hy, h⟩)))
      rw [hfind.1] at this
      exact this
    · rw [decide_eq_false he, Bool.not_false, BIf_true]
      rcases hi_head (k := kq) hso with ⟨z', B', e1, e2, e3, e4⟩ | ⟨_, e1, e2⟩
      · rw [← map_hi, hh, List.map_cons] at e1
        injection e1 with e1 e1'
        rw [e1] at he; exact absurd e2 he
      · exact hno e1 e2 w3 c2 s3 f03
end
end Go.Proofs.YtfokodpnoiilbaaGreat.E
