/-
  Skip lists: a node is inserted.
-/
import Derived.Test.YtfokodpnoiilbaaGreatS3
namespace Go.Proofs.YtfokodpnoiilbaaGreat.E
open Go
set_option linter.unusedSimpArgs false
set_option linter.unusedVariables false
set_option maxRecDepth 100000
set_option maxHeartbeats 4000000

def G.wF (g : G) (f : Nat → Nat → Option Nat) : G := { g with f := f }
theorem MS.mono {w : World} {N N' : List Nat} {g : G} (m : MS w N g) (h : ∀ x ∈ N', x ∈ N) : MS w N' g :=
  ⟨fun x hx => m.n x (h x hx), fun x hx y hy => m.inj x (h x hx) y (h y hy)⟩
theorem lv_congr {ht ht' : Nat → Nat} {i : Nat} {l : List Nat} (h : ∀ x ∈ l, ht' x = ht x) : lv ht' i l = lv ht i l := by
  unfold lv
  exact List.filter_congr fun x hx => by rw [h x hx]

section
variable {w : World} {sl num M L h cb pb : Nat} {d : Int} {c : Nat → Option Nat} {ns A B : List Nat} {g : G}
theorem F77_L2_spec {k : Value → W} {pos : Int} {l x : Nat} {cc pc : Nat} (H : HC w sl num M L h cb pb d c) (m : MS w (x :: h :: (A ++ B)) g) (hx : x ∉ h :: (A ++ B)) (hnd : (h :: (A ++ B)).Nodup) (hne : ∀ y ∈ x :: h :: (A ++ B), g.fb y ≠ cb)
    (hl : l ≤ L) (hL : L < M) (hM : M ≤ 64) (hhx : g.ht x = l) (hhh : g.ht h = M) (hc : ∀ i, i < L → c i = some (Lst h (lv g.ht i A))) (pa : ∀ i, i < M → Path (fun y => g.f y i) h (lv g.ht i A ++ lv g.ht i B))
    {F : Nat → Prop} (hF : ∀ y ∈ x :: h :: (A ++ B), F (g.fb y) ∧ F (g.wb y))
    (hk : ∀ w' f', HC w' sl num M L h cb pb d c → MS w' (x :: h :: (A ++ B)) (g.wF f') → (∀ i, i < l → Path (fun y => f' y i) h (lv g.ht i A ++ x :: lv g.ht i B)) → (∀ i, l ≤ i → ∀ y ∈ h :: (A ++ B), f' y i = g.f y i) →
      Fr F w w' → k .nilIface w') :
    Loop [.ptr, (.int .u64), .slice, .slice, (.int .u8), .ptr, (.int .u8)] (F77_L2 k) (some ⟨sl, 0, none⟩) pos (some ⟨cb, 0, none⟩) M cc (some ⟨pb, 0, none⟩) M pc ((l : Nat) : Int) (some ⟨x, 0, none⟩) 0 w := by
  have hp : ∀ i, i < L → ∃ p ∈ x :: h :: (A ++ B), c i = some p ∧ i < g.ht p ∧ p = Lst h (lv g.ht i A) ∧ p ∈ h :: (A ++ B) := fun i hi => by
    refine ⟨_, ?_, hc i hi, ?_, rfl, ?_⟩
    · rcases List.mem_cons.1 (Lst_mem h (lv g.ht i A)) with e | e
      · rw [e]; simp
      · exact List.mem_cons_of_mem _ (List.mem_cons_of_mem _ (List.mem_append_left _ (mem_lv.1 e).1))
    · rcases List.mem_cons.1 (Lst_mem h (lv g.ht i A)) with e | e
      · rw [e, hhh]; omega
      · exact (mem_lv.1 e).2
    · rcases List.mem_cons.1 (Lst_mem h (lv g.ht i A)) with e | e
      · rw [e]; simp
      · exact List.mem_cons_of_mem _ (List.mem_append_left _ (mem_lv.1 e).1)
  refine F77_L2_rule (I := fun sl' pos' p1 l1 c1 p2 l2 c2 n' x' i' w' => sl' = some ⟨sl, 0, none⟩ ∧ pos' = pos ∧ p1 = some ⟨cb, 0, none⟩ ∧ l1 = M ∧ c1 = cc ∧ p2 = some ⟨pb, 0, none⟩ ∧ l2 = M ∧ c2 = pc ∧ n' = ((l : Nat) : Int) ∧ x' = some ⟨x, 0, none⟩ ∧
      ∃ (t : Nat) (f' : Nat → Nat → Option Nat), i' = ((t : Nat) : Int) ∧ t ≤ l ∧ HC w' sl num M L h cb pb d c ∧ MS w' (x :: h :: (A ++ B)) (g.wF f') ∧ Fr F w w' ∧
        (∀ i, i < t → Path (fun y => f' y i) h (lv g.ht i A ++ x :: lv g.ht i B)) ∧ (∀ i, t ≤ i → ∀ y ∈ h :: (A ++ B), f' y i = g.f y i))
    (μ := fun sl' pos' p1 l1 c1 p2 l2 c2 n' x' i' w' => l - i'.toNat) ?_
    ⟨rfl, rfl, rfl, rfl, rfl, rfl, rfl, rfl, rfl, rfl, 0, g.f, rfl, Nat.zero_le _, H, m, Fr.refl _ _, fun i hi => by omega, fun i hi y hy => rfl⟩
  rintro _ _ _ _ _ _ _ _ _ _ _ w1 ⟨rfl, rfl, rfl, hl1, rfl, rfl, hl2, rfl, rfl, rfl, t, f1, rfl, ht, H, m, f, hp1, hp2⟩
  unfold F77_L2
  rw [hl1, hl2]
  by_cases htl : t < l
  · rw [decide_eq_true (show ((t : Nat) : Int) < ((l : Nat) : Int) by omega), BIf_true]
    obtain ⟨p, q1, q2, q3, q4, q5⟩ := hp t (by omega)
    have hxp : x ≠ p := fun e => hx (e ▸ q5)
    have hxx : t < g.ht x := by rw [hhx]; exact htl
    refine drw_intro fun w2 f2 z2 => ?_
    have H2 := H.fr0 f2
    have m2 := m.fr0 f2
    have f02 := f.trans f2 (fun _ h => h.elim)
    have X2 := m2.n x (List.mem_cons_self ..)
    have P2 := m2.n p q1
    rw [NN_mk]
    refine load_slice (i := 0) X2.a rfl ?_
    refine ldP H2.ca (show t < M by omega) ?_
    rw [q2, oA_some, NN_mk]
    refine load_slice (i := 0) P2.a rfl (ldP P2.f q3 ?_)
    refine stP X2.f hxx fun w3 b3 f3 z3 => ?_
    have m3 := m2.setF (List.mem_cons_self ..) b3 f3
    have H3 := H2.setF m2 (List.mem_cons_self ..) (hne x (List.mem_cons_self ..)) f3
    have f03 := f02.trans f3 (fun b hb => .inl (by rw [show b = g.fb x from hb]; exact (hF x (List.mem_cons_self ..)).1))
    have P3 := m3.n p q1
    refine ldP H3.ca (show t < M by omega) ?_
    rw [q2, oA_some, NN_mk]
    refine load_slice (i := 0) P3.a rfl ?_
    refine stP (v := some x) P3.f q3 fun w4 b4 f4 z4 => ?_
    have m4 := m3.setF q1 b4 f4
    have H4 := H3.setF m3 q1 (hne p q1) f4
    have f04 := f03.trans f4 (fun b hb => .inl (by rw [show b = g.fb p from hb]; exact (hF p q1).1))
    have P4 := m4.n p q1
    refine ldP H4.ca (show t < M by omega) ?_
    rw [q2, oA_some, NN_mk]
    refine load_slice (i := 1) P4.a rfl (ldW P4.v q3 fun wd => ?_)
    obtain ⟨f5, hf5⟩ : ∃ f5, f5 = (((g.wF f1).setF x t (f1 p t)).setF p t (some x)).f := ⟨_, rfl⟩
    have e5 : ((g.wF f1).setF x t (f1 p t)).setF p t (some x) = g.wF f5 := by rw [hf5]; rfl
    have m4' : MS w4 (x :: h :: (A ++ B)) (g.wF f5) := by rw [← e5]; exact m4
    have v1 : f5 p t = some x := by rw [hf5]; simp only [G.setF, G.wF, up_same]
    have v2 : f5 x t = f1 p t := by rw [hf5]; simp only [G.setF, G.wF, up_ne _ _ hxp, up_same]
    have v3 : ∀ z, z ≠ x → z ≠ p → f5 z t = f1 z t := fun z h1 h2 => by rw [hf5]; simp only [G.setF, G.wF, up_ne _ _ h2, up_ne _ _ h1]
    have v4 : ∀ z i, i ≠ t → f5 z i = f1 z i := fun z i hi => by
      rw [hf5]; simp only [G.setF, G.wF]
      by_cases h2 : z = p
      · subst h2; rw [up_same, up_ne _ _ hi]
        rw [up_ne _ _ (Ne.symm hxp)]
      · rw [up_ne _ _ h2]
        by_cases h1 : z = x
        · subst h1; rw [up_same, up_ne _ _ hi]
        · rw [up_ne _ _ h1]
    have fin : ∀ w', HC w' sl num M L h cb pb d c → MS w' (x :: h :: (A ++ B)) (g.wF f5) → Fr F w w' → ∃ (t' : Nat) (f' : Nat → Nat → Option Nat), ((t + 1 : Nat) : Int) = ((t' : Nat) : Int) ∧ t' ≤ l ∧ HC w' sl num M L h cb pb d c ∧ MS w' (x :: h :: (A ++ B)) (g.wF f') ∧ Fr F w w' ∧
        (∀ i, i < t' → Path (fun y => f' y i) h (lv g.ht i A ++ x :: lv g.ht i B)) ∧ (∀ i, t' ≤ i → ∀ y ∈ h :: (A ++ B), f' y i = g.f y i) := fun w' H' m' fr' => by
      refine ⟨t + 1, f5, rfl, by omega, H', m', fr', fun i hi => ?_, fun i hi y hy => ?_⟩
      · by_cases e : i = t
        · subst e
          have hpa : Path (fun y => f1 y i) h (lv g.ht i A ++ lv g.ht i B) := (pa i (by omega)).congr fun y hy => hp2 i (Nat.le_refl _) y (by
            rw [← lv_app] at hy
            rcases List.mem_cons.1 hy with e | e
            · rw [e]; exact List.mem_cons_self ..
            · exact List.mem_cons_of_mem _ (mem_lv.1 e).1)
          have hat := hpa.at
          refine hpa.put ?_ ?_ (q4 ▸ v1) ?_ fun z h1 h2 => v3 z h1 (by rw [q4]; exact h2)
          · rw [← lv_app]
            exact List.nodup_cons.2 ⟨fun hm => (List.nodup_cons.1 hnd).1 (mem_lv.1 hm).1, (List.nodup_cons.1 hnd).2.filter _⟩
          · rw [← lv_app]
            intro hm
            rcases List.mem_cons.1 hm with e | e
            · exact hx (e ▸ List.mem_cons_self ..)
            · exact hx (List.mem_cons_of_mem _ (mem_lv.1 e).1)
          · show f5 x i = _
            rw [v2, q4]; exact hat
        · exact (hp1 i (by omega)).congr fun y hy => v4 y i e
      · rw [v4 y i (by omega)]; exact hp2 i (by omega) y hy
    have X4 := m4'.n x (List.mem_cons_self ..)
    refine BIf_intro (fun _ => ?_) fun _ => ?_
    · rw [NN_mk]
      refine load_slice (i := 1) X4.a rfl (stW X4.v (show t < _ from hxx) fun w5 e5 f5' z5 => ?_)
      refine F77_J3_spec (F := F) (H4.setW X4.v e5 f5') (m4'.setW X4.v e5 f5') (by omega) hM q2 q1 q3 (fun y hy => (hF y hy).2) fun w6 H6 m6 f6 => ?_
      refine ⟨⟨rfl, rfl, rfl, rfl, rfl, rfl, rfl, rfl, rfl, rfl, fin w6 H6 m6 ((f04.trans f5' (fun b hb => .inl (by rw [show b = g.wb x from hb]; exact (hF x (List.mem_cons_self ..)).2))).trans f6 fun _ h => .inl h)⟩, ?_⟩
      show l - ((t + 1 : Nat) : Int).toNat < l - ((t : Nat) : Int).toNat
      omega
    · refine drw_intro fun w5 f5' z5 => ?_
      have X5 := X4.fr f5' id id id
      have H5 := H4.fr0 f5'
      have m5 := m4'.fr0 f5'
      rw [NN_mk]
      refine load_slice (i := 1) X5.a rfl (ldW H5.pw (show t < M by omega) fun x9 => stW X5.v (show t < _ from hxx) fun w6 e6 f6 z6 => ?_)
      refine F77_J3_spec (F := F) (H5.setW X5.v e6 f6) (m5.setW X5.v e6 f6) (by omega) hM q2 q1 q3 (fun y hy => (hF y hy).2) fun w7 H7 m7 f7 => ?_
      refine ⟨⟨rfl, rfl, rfl, rfl, rfl, rfl, rfl, rfl, rfl, rfl, fin w7 H7 m7 (((f04.trans f5' fun _ h => h.elim).trans f6 (fun b hb => .inl (by rw [show b = g.wb x from hb]; exact (hF x (List.mem_cons_self ..)).2))).trans f7 fun _ h => .inl h)⟩, ?_⟩
      show l - ((t + 1 : Nat) : Int).toNat < l - ((t : Nat) : Int).toNat
      omega
  · rw [decide_eq_false (show ¬ ((t : Nat) : Int) < ((l : Nat) : Int) by omega), BIf_false]
    have : t = l := by omega
    subst this
    refine F77_L3_spec (F := F) H m hL hM (by omega) (fun i hi => ?_) (fun y hy => (hF y hy).2) fun w2 H2 m2 f2 => hk w2 f1 H2 m2 hp1 hp2 (f.trans f2 fun _ h => .inl h)
    obtain ⟨p, q1, q2, q3, _⟩ := hp i hi
    exact ⟨p, q1, q2, q3⟩
end

section
variable {key : Value → Int} {w w0 : World} {sl : Nat} {ns : List Nat} {g : G} {M L h cb pb : Nat} {d : Int} {c : Nat → Option Nat} {v : Value} {kq : Int}
/-- The new node, made and put in. -/
theorem F77_J2_spec {k : Value → W} {pos : Int} {l : Nat} {cc pc : Nat} (H : HC w sl (ns.length + 1) M L h cb pb d c) (m : MS w (h :: ns) g) (hnd : (h :: ns).Nodup) (hne : ∀ y ∈ h :: ns, g.fb y ≠ cb)
    (hl1 : 1 ≤ l) (hl : l ≤ L) (hL : L < M) (hM8 : 8 ≤ M) (hM : M ≤ 64) (hhh : g.ht h = M) (hht : ∀ x ∈ ns, 1 ≤ g.ht x ∧ g.ht x ≤ L)
    (hc : ∀ i, i < L → c i = some (Lst h (lv g.ht i (lo (KY key g) kq ns)))) (pa : ∀ i, i < M → Path (fun y => g.f y i) h (lv g.ht i ns)) (so : So (KY key g) ns)
    (hv : key v = kq) (hv1 : oneC v = true) (hkn : ∀ x ∈ ns, KY key g x ≠ kq)
    (hk : ∀ w' ns' g' d' c', SLm key w' sl ns' g' M L h cb pb d' c' → ns'.map g'.en = (lo (KY key g) kq ns).map g.en ++ v :: (hi (KY key g) kq ns).map g.en → Fr (Sf sl cb pb (h :: ns) g) w w' →
      (∀ b, Sf sl cb pb (h :: ns') g' b → Sf sl cb pb (h :: ns) g b ∨ w.heap.size ≤ b) → k .nilIface w') :
    F77_J2 k (some ⟨sl, 0, none⟩) v pos (some ⟨cb, 0, none⟩) M cc (some ⟨pb, 0, none⟩) M pc ((l : Nat) : Int) w := by
  unfold F77_J2
  refine F33_call (F33_spec (by omega) hv1 fun w1 x fbx wbx a1 b1 v1 x1 x2 x3 f1 => back_ptr ?_)
  have H1 := H.fr0 f1
  have m1 := m.fr0 f1
  generalize hA : lo (KY key g) kq ns = A at *
  generalize hB : hi (KY key g) kq ns = B at *
  have eAB : ns = A ++ B := by rw [← hA, ← hB]; exact lo_hi so
  have old : ∀ y ∈ h :: ns, y < w.heap.size ∧ g.fb y < w.heap.size ∧ g.wb y < w.heap.size := fun y hy => ⟨(m.n y hy).a.lt, (m.n y hy).f.lt, by obtain ⟨ws, _, hb⟩ := (m.n y hy).v; exact hb.lt⟩
  have hxn : ∀ y ∈ h :: ns, y ≠ x := fun y hy e => by have := (old y hy).1; omega
  let g1 : G := ⟨up g.fb x fbx, up g.wb x wbx, up g.ht x l, up g.en x v, up g.f x fun _ => none⟩
  have m2 : MS w1 (x :: h :: ns) g1 := by
    refine ⟨fun y hy => ?_, fun y hy z hz e => ?_⟩
    · by_cases e : y = x
      · subst e
        refine ⟨?_, ?_, ?_⟩
        · show Blk w1 y 117 [.slice (some ⟨up g.fb y fbx y, 0, none⟩) (up g.ht y l y) (up g.ht y l y), .slice (some ⟨up g.wb y wbx y, 0, none⟩) (up g.ht y l y) (up g.ht y l y), up g.en y v y]
          simp only [up_same]; exact a1
        · show Blk w1 (up g.fb y fbx y) 101 (pts (up g.ht y l y) (up g.f y (fun _ => none) y))
          simp only [up_same]; exact b1
        · show Wd w1 (up g.wb y wbx y) (up g.ht y l y)
          simp only [up_same]; exact v1
      · have hy := (List.mem_cons.1 hy).resolve_left e
        have N1 := m1.n y hy
        refine ⟨?_, ?_, ?_⟩
        · show Blk w1 y 117 [.slice (some ⟨up g.fb x fbx y, 0, none⟩) (up g.ht x l y) (up g.ht x l y), .slice (some ⟨up g.wb x wbx y, 0, none⟩) (up g.ht x l y) (up g.ht x l y), up g.en x v y]
          simp only [up_ne _ _ e]; exact N1.a
        · show Blk w1 (up g.fb x fbx y) 101 (pts (up g.ht x l y) (up g.f x (fun _ => none) y))
          simp only [up_ne _ _ e]; exact N1.f
        · show Wd w1 (up g.wb x wbx y) (up g.ht x l y)
          simp only [up_ne _ _ e]; exact N1.v
    · have e : up g.fb x fbx y = up g.fb x fbx z := e
      by_cases e1 : y = x
      · by_cases e2 : z = x
        · rw [e1, e2]
        · have hz := (List.mem_cons.1 hz).resolve_left e2
          rw [e1, up_same, up_ne _ _ e2] at e
          have := (old z hz).2.1; omega
      · have hy := (List.mem_cons.1 hy).resolve_left e1
        by_cases e2 : z = x
        · rw [e2, up_same, up_ne _ _ e1] at e
          have := (old y hy).2.1; omega
        · have hz := (List.mem_cons.1 hz).resolve_left e2
          rw [up_ne _ _ e1, up_ne _ _ e2] at e
          exact m.inj y hy z hz e
  have hcb : cb < w.heap.size := H.ca.lt
  have hne2 : ∀ y ∈ x :: h :: ns, g1.fb y ≠ cb := fun y hy => by
    show up g.fb x fbx y ≠ cb
    by_cases e : y = x
    · rw [e, up_same]; omega
    · rw [up_ne _ _ e]; exact hne y ((List.mem_cons.1 hy).resolve_left e)
  have hA1 : ∀ y ∈ A, y ∈ ns := fun y hy => by rw [eAB]; exact List.mem_append_left _ hy
  have hB1 : ∀ y ∈ B, y ∈ ns := fun y hy => by rw [eAB]; exact List.mem_append_right _ hy
  have lA : ∀ i, lv g1.ht i A = lv g.ht i A := fun i => lv_congr fun y hy => up_ne _ _ (hxn y (List.mem_cons_of_mem _ (hA1 y hy)))
  have lB : ∀ i, lv g1.ht i B = lv g.ht i B := fun i => lv_congr fun y hy => up_ne _ _ (hxn y (List.mem_cons_of_mem _ (hB1 y hy)))
  have hxnot : x ∉ h :: (A ++ B) := fun hm => hxn x (by rw [eAB]; exact hm) rfl
  let F : Nat → Prop := Sf sl cb pb (x :: h :: ns) g1
  have hS : ∀ b, F b → Sf sl cb pb (h :: ns) g b ∨ w.heap.size ≤ b := fun b hb => by
    rcases hb with h | h | h | ⟨y, hy, h⟩
    · exact .inl (.inl h)
    · exact .inl (.inr (.inl h))
    · exact .inl (.inr (.inr (.inl h)))
    · by_cases e : y = x
      · subst e
        right
        rcases h with h | h | h
        · omega
        · have h : b = up g.fb y fbx y := h; rw [up_same] at h; omega
        · have h : b = up g.wb y wbx y := h; rw [up_same] at h; omega
      · have hy := (List.mem_cons.1 hy).resolve_left e
        refine .inl (.inr (.inr (.inr ⟨y, hy, ?_⟩)))
        have e1 : g1.fb y = g.fb y := up_ne _ _ e
        have e2 : g1.wb y = g.wb y := up_ne _ _ e
        rw [e1, e2] at h; exact h
  have hhh1 : g1.ht h = M := by show up g.ht x l h = M; rw [up_ne _ _ (hxn h (List.mem_cons_self ..))]; exact hhh
  have hhx1 : g1.ht x = l := up_same _ _ _
  rw [eAB] at m2 hne2 hnd
  refine F77_L2_spec (A := A) (B := B) (F := F) H1 m2 hxnot hnd hne2 hl hL hM hhx1 hhh1 (fun i hi => by rw [lA]; exact hc i hi) (fun i hi => ?_) (fun y hy => ⟨.inr (.inr (.inr ⟨y, by rw [eAB]; exact hy, .inr (.inl rfl)⟩)), .inr (.inr (.inr ⟨y, by rw [eAB]; exact hy, .inr (.inr rfl)⟩))⟩) fun w2 f' H2 m2' p1 p2 f2 => ?_
  · rw [lA, lB, ← lv_app, ← eAB]
    refine (pa i hi).congr fun y hy => ?_
    show up g.f x (fun _ => none) y i = _
    rw [up_ne _ _ (hxn y (by
      rcases List.mem_cons.1 hy with e | e
      · rw [e]; exact List.mem_cons_self ..
      · exact List.mem_cons_of_mem _ (mem_lv.1 e).1))]
  · have hen : ∀ y ∈ ns, g1.en y = g.en y := fun y hy => up_ne _ _ (hxn y (List.mem_cons_of_mem _ hy))
    have hht1 : ∀ y ∈ ns, g1.ht y = g.ht y := fun y hy => up_ne _ _ (hxn y (List.mem_cons_of_mem _ hy))
    have hmem : ∀ y ∈ A ++ x :: B, y ∈ x :: (A ++ B) := fun y hy => by
      simp only [List.mem_append, List.mem_cons] at hy ⊢
      rcases hy with h | h | h
      · exact .inr (.inl h)
      · exact .inl h
      · exact .inr (.inr h)
    have hmem2 : ∀ y ∈ h :: (A ++ x :: B), y ∈ x :: h :: (A ++ B) := fun y hy => by
      rcases List.mem_cons.1 hy with e | e
      · rw [e]; simp
      · rcases List.mem_cons.1 (hmem y e) with e | e
        · rw [e]; exact List.mem_cons_self ..
        · exact List.mem_cons_of_mem _ (List.mem_cons_of_mem _ e)
    refine hk w2 (A ++ x :: B) (g1.wF f') d c ⟨?_, H2.ca, H2.pw, m2'.mono hmem2, ?_, fun y hy => hne2 y (hmem2 y hy), hhh1, hM8, hM, hL, fun y hy => ?_, fun i hi => ?_, ?_, fun e => by simp at e⟩ ?_ ?_ ?_
    · have := H2.hd
      rw [show (A ++ x :: B).length = ns.length + 1 by rw [eAB]; simp; omega]
      exact this
    · obtain ⟨n1, n2⟩ := List.nodup_cons.1 hnd
      refine List.nodup_cons.2 ⟨fun hm => ?_, ?_⟩
      · rcases List.mem_cons.1 (hmem h hm) with e | e
        · exact hxnot (e ▸ List.mem_cons_self ..)
        · exact n1 e
      · obtain ⟨a1, a2, a3⟩ := List.nodup_append.1 n2
        refine List.nodup_append.2 ⟨a1, List.nodup_cons.2 ⟨fun hm => hxnot (by simp [hm]), a2⟩, fun y hy z hz e => ?_⟩
        subst e
        rcases List.mem_cons.1 hz with e | e
        · subst e; exact hxnot (by simp [hy])
        · exact a3 y hy y e rfl
    · rcases List.mem_cons.1 (hmem y hy) with e | e
      · rw [e]; show 1 ≤ g1.ht x ∧ g1.ht x ≤ L; rw [hhx1]; exact ⟨hl1, hl⟩
      · have e : y ∈ ns := by rw [eAB]; exact e
        show 1 ≤ g1.ht y ∧ g1.ht y ≤ L
        rw [hht1 y e]; exact hht y e
    · show Path (fun y => f' y i) h (lv g1.ht i (A ++ x :: B))
      rw [lv_app]
      by_cases hil : i < l
      · have : lv g1.ht i (x :: B) = x :: lv g1.ht i B := List.filter_cons_of_pos (by rw [hhx1]; simpa using hil)
        rw [this]; exact p1 i hil
      · have : lv g1.ht i (x :: B) = lv g1.ht i B := List.filter_cons_of_neg (by rw [hhx1]; simpa using hil)
        rw [this, lA, lB, ← lv_app, ← eAB]
        refine (pa i hi).congr fun y hy => ?_
        have hy : y ∈ h :: ns := by
          rcases List.mem_cons.1 hy with e | e
          · rw [e]; exact List.mem_cons_self ..
          · exact List.mem_cons_of_mem _ (mem_lv.1 e).1
        have := p2 i (by omega) y (by rw [← eAB]; exact hy)
        show f' y i = g.f y i
        rw [this]
        show up g.f x (fun _ => none) y i = _
        rw [up_ne _ _ (hxn y hy)]
    · have kx : key (g1.en x) = kq := by show key (up g.en x v x) = kq; rw [up_same]; exact hv
      have kA : ∀ y ∈ A, key (g1.en y) < kq := fun y hy => by
        rw [hen y (hA1 y hy)]; rw [← hA] at hy; exact (mem_lo.1 hy).2
      have kB : ∀ y ∈ B, kq < key (g1.en y) := fun y hy => by
        rw [hen y (hB1 y hy)]
        have h1 := hkn y (hB1 y hy)
        rw [← hB] at hy
        have h2 : kq ≤ key (g.en y) := (mem_hi.1 hy).2
        have h1 : key (g.en y) ≠ kq := h1
        omega
      have so1 : (A ++ B).Pairwise fun a b => key (g1.en a) < key (g1.en b) := by
        rw [← eAB]
        exact List.Pairwise.imp_of_mem (fun {a b} ha hb hab => by rw [hen a ha, hen b hb]; exact hab) so
      obtain ⟨s1, s2, s3⟩ := List.pairwise_append.1 so1
      show (A ++ x :: B).Pairwise fun a b => key (g1.en a) < key (g1.en b)
      refine List.pairwise_append.2 ⟨s1, List.pairwise_cons.2 ⟨fun y hy => by rw [kx]; exact kB y hy, s2⟩, fun y hy z hz => ?_⟩
      rcases List.mem_cons.1 hz with e | e
      · rw [e, kx]; exact kA y hy
      · exact s3 y hy z e
    · show (A ++ x :: B).map g1.en = _
      rw [List.map_append, List.map_cons]
      rw [List.map_congr_left (f := g1.en) (g := g.en) fun y hy => hen y (hA1 y hy), List.map_congr_left (f := g1.en) (g := g.en) fun y hy => hen y (hB1 y hy)]
      rw [show g1.en x = v from up_same _ _ _]
    · exact (f1.mono (S' := Sf sl cb pb (h :: ns) g) fun _ h => h.elim).trans f2 fun b hb => (hS b hb)
    · intro b hb
      refine hS b ?_
      rcases hb with h | h | h | ⟨y, hy, h⟩
      · exact .inl h
      · exact .inr (.inl h)
      · exact .inr (.inr (.inl h))
      · exact .inr (.inr (.inr ⟨y, by rw [eAB]; exact hmem2 y hy, h⟩))
end
end Go.Proofs.YtfokodpnoiilbaaGreat.E
