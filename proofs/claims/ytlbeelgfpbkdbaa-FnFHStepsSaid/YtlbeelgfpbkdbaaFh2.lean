/-
  Forests of rings; the heap; what is enqueued.
-/
import Derived.Test.YtlbeelgfpbkdbaaFh1
namespace Go.Proofs.Ytlbeelgfpbkdbaa.E
open Go
set_option linter.unusedSimpArgs false
set_option linter.unusedVariables false
set_option maxRecDepth 100000
set_option maxHeartbeats 4000000

/-- Nodes D, roots R, children C, a rank that is less for a child. -/
structure For (s : St) (D R : List Nat) (C : Nat → List Nat) (h : Nat → Nat) : Prop where
  Dn : D.Nodup
  Rn : R.Nodup
  Cn : ∀ b ∈ D, (C b).Nodup
  Rm : ∀ x, x ∈ R ↔ x ∈ D ∧ s.pa x = none
  Cm : ∀ b ∈ D, ∀ x, x ∈ C b ↔ x ∈ D ∧ s.pa x = some b
  pD : ∀ x ∈ D, ∀ b, s.pa x = some b → b ∈ D
  Cr : ∀ b ∈ D, Ring s.nx s.pv (C b)
  ch : ∀ b ∈ D, s.ch b = (C b).head?
  dg : ∀ b ∈ D, s.dg b = (C b).length
  rk : ∀ x ∈ D, ∀ b, s.pa x = some b → h x < h b
/-- No child comes ahead of its parent. -/
def Ordd (s : St) (D : List Nat) : Prop := ∀ x ∈ D, ∀ b, s.pa x = some b → s.pr b ≤ s.pr x
theorem bound_of (h : Nat → Nat) : ∀ D : List Nat, ∃ M, ∀ x ∈ D, h x ≤ M
  | [] => ⟨0, fun x hx => by cases hx⟩
  | a :: D => by
    obtain ⟨M, hM⟩ := bound_of h D
    refine ⟨max M (h a), fun x hx => ?_⟩
    rcases List.mem_cons.1 hx with rfl | hx
    · omega
    · have := hM x hx; omega
theorem For.root_le {s : St} {D R : List Nat} {C : Nat → List Nat} {h : Nat → Nat} (F : For s D R C h) (O : Ordd s D) {x : Nat} (hx : x ∈ D) : ∃ r ∈ R, s.pr r ≤ s.pr x := by
  obtain ⟨M, hM⟩ := bound_of h D
  generalize hn : M - h x = n
  induction n using Nat.strongRecOn generalizing x with
  | ind n ih =>
    cases hp : s.pa x with
    | none => exact ⟨x, (F.Rm x).2 ⟨hx, hp⟩, Int.le_refl _⟩
    | some b =>
      have hb := F.pD x hx b hp
      have h1 := F.rk x hx b hp
      have h2 := hM b hb
      obtain ⟨r, hr, h3⟩ := ih (M - h b) (by omega) hb rfl
      have := O x hx b hp
      exact ⟨r, hr, by omega⟩
theorem For.links {s s' : St} {D R R' : List Nat} {C : Nat → List Nat} {h : Nat → Nat} (F : For s D R C h) (h1 : s'.ch = s.ch) (h2 : s'.pa = s.pa) (h3 : s'.dg = s.dg) (hR : ∀ x, x ∈ R' ↔ x ∈ R) (hn : R'.Nodup) (hl : ∀ b ∈ D, ∀ x ∈ C b, s'.nx x = s.nx x ∧ s'.pv x = s.pv x) : For s' D R' C h := by
  refine ⟨F.Dn, hn, F.Cn, fun x => by rw [hR, h2]; exact F.Rm x, fun b hb x => by rw [h2]; exact F.Cm b hb x, fun x hx b => by rw [h2]; exact F.pD x hx b, fun b hb => ?_, fun b hb => by rw [h1]; exact F.ch b hb, fun b hb => by rw [h3]; exact F.dg b hb, fun x hx b => by rw [h2]; exact F.rk x hx b⟩
  exact ring_congr (F.Cr b hb) (fun x hx => (hl b hb x hx).1) fun x hx => (hl b hb x hx).2
theorem len_le_of : ∀ {l D : List Nat}, l.Nodup → (∀ x ∈ l, x ∈ D) → l.length ≤ D.length
  | [], _, _, _ => Nat.zero_le _
  | a :: l, D, hn, h => by
    obtain ⟨h1, h2⟩ := List.nodup_cons.1 hn
    have ha := h a (List.mem_cons_self ..)
    have := len_le_of (D := D.erase a) h2 fun x hx => (List.mem_erase_of_ne (fun (e : x = a) => h1 (e ▸ hx))).2 (h x (List.mem_cons_of_mem _ hx))
    have he := List.length_erase_of_mem ha
    have hp := List.length_pos_of_mem ha
    simp only [List.length_cons]; omega
theorem For.deg_le {s : St} {D R : List Nat} {C : Nat → List Nat} {h : Nat → Nat} (F : For s D R C h) {b : Nat} (hb : b ∈ D) : s.dg b ≤ D.length := by
  rw [F.dg b hb]; exact len_le_of (F.Cn b hb) fun x hx => ((F.Cm b hb x).1 hx).1
/-- A node of the children's is none of the roots'. -/
theorem For.not_root {s : St} {D R : List Nat} {C : Nat → List Nat} {h : Nat → Nat} (F : For s D R C h) {b x r : Nat} (hb : b ∈ D) (hx : x ∈ C b) (hr : r ∈ R) : x ≠ r := by
  rintro rfl
  have h1 := ((F.Cm b hb x).1 hx).2
  have h2 := ((F.Rm x).1 hr).2
  rw [h1] at h2; cases h2

/-- A heap: its nodes, their priorities, the least one. -/
structure Heap (w : World) (hb : Nat) (D : List Nat) (pr : Nat → Int) (m : Option Nat) (s : St) (R : List Nat) (C : Nat → List Nat) (h : Nat → Nat) : Prop where
  ms : MS w D s
  fo : For s D R C h
  rr : Ring s.nx s.pv R
  or : Ordd s D
  pe : s.pr = pr
  hd : Blk w hb 45 [.pointer (oA m), .int .u64 (D.length : Nat)]
  ft : ∀ x ∈ D, Fit (pr x)
  mn : D = [] ∧ m = none ∨ ∃ x ∈ R, m = some x ∧ ∀ y ∈ D, pr x ≤ pr y
def HP (w : World) (hb : Nat) (D : List Nat) (pr : Nat → Int) (m : Option Nat) : Prop := ∃ s R C h, Heap w hb D pr m s R C h
theorem HP.fr {S : Nat → Prop} {w w' : World} {hb : Nat} {D : List Nat} {pr : Nat → Int} {m : Option Nat} (H : HP w hb D pr m) (f : Fr S w w') (h1 : ¬ S hb) (h2 : ∀ x ∈ D, ¬ S x) : HP w' hb D pr m := by
  obtain ⟨s, R, C, h, H⟩ := H
  exact ⟨s, R, C, h, H.ms.fr f h2, H.fo, H.rr, H.or, H.pe, H.hd.fr f h1, H.ft, H.mn⟩
theorem HP.fr0 {w w' : World} {hb : Nat} {D : List Nat} {pr : Nat → Int} {m : Option Nat} (H : HP w hb D pr m) (f : Fr (fun _ => False) w w') : HP w' hb D pr m := H.fr f id fun _ _ h => h
theorem HP.hb {w : World} {hb : Nat} {D : List Nat} {pr : Nat → Int} {m : Option Nat} (H : HP w hb D pr m) : Blk w hb 45 [.pointer (oA m), .int .u64 (D.length : Nat)] := by
  obtain ⟨s, R, C, h, H⟩ := H
  exact H.hd
theorem HP.cell {w : World} {hb : Nat} {D : List Nat} {pr : Nat → Int} {m : Option Nat} (H : HP w hb D pr m) {x : Nat} (hx : x ∈ D) : ∃ vs, Blk w x 69 vs ∧ vs[6]? = some (.float .f64 (fB (pr x))) := by
  obtain ⟨s, R, C, h, H⟩ := H
  refine ⟨_, H.ms x hx, ?_⟩
  rw [← H.pe]; rfl
theorem HP.dn {w : World} {hb : Nat} {D : List Nat} {pr : Nat → Int} {m : Option Nat} (H : HP w hb D pr m) : D.Nodup := by
  obtain ⟨s, R, C, h, H⟩ := H
  exact H.fo.Dn
theorem HP.ne {w : World} {hb : Nat} {D : List Nat} {pr : Nat → Int} {m : Option Nat} (H : HP w hb D pr m) {x : Nat} (hx : x ∈ D) : hb ≠ x := by
  obtain ⟨vs, hv, _⟩ := H.cell hx
  rintro rfl
  exact absurd (hv.unique H.hb).1 (by decide)
theorem HP.min {w : World} {hb : Nat} {D : List Nat} {pr : Nat → Int} {m : Option Nat} (H : HP w hb D pr m) (h0 : D ≠ []) : ∃ x ∈ D, m = some x ∧ ∀ y ∈ D, pr x ≤ pr y := by
  obtain ⟨s, R, C, h, H⟩ := H
  rcases H.mn with ⟨h1, _⟩ | ⟨x, hx, h1, h2⟩
  · exact absurd h1 h0
  · exact ⟨x, ((H.fo.Rm x).1 hx).1, h1, h2⟩

/-- NewFloatFibHeap. -/
theorem F13_spec {k : Value → W} {w : World} (hk : ∀ w', Fr (fun _ => False) w w' → k (.agg #[.pointer none, .int .u64 0]) w') : F13 k w := by
  unfold F13
  refine new_intro fun n w1 e1 b1 f1 z1 => ?_
  refine store_intro (i := 0) b1 (by simp) rfl fun w2 b2 f2 z2 => ?_
  refine store_intro (i := 1) b2 (by simp) rfl fun w3 b3 f3 z3 => ?_
  refine load_ptr (i := 0) b3 rfl (load_int (i := 1) b3 rfl ?_)
  exact hk w3 ((f1.trans f2 fun x e => .inr (by have : x = n := e; omega)).trans f3 fun x e => .inr (by have : x = n := e; omega))
theorem hp_new {w : World} {hb : Nat} (hB : Blk w hb 45 [.pointer none, .int .u64 0]) (pr : Nat → Int) : HP w hb [] pr none :=
  ⟨⟨id, id, fun _ => none, fun _ => none, fun _ => 0, fun _ => false, pr⟩, [], fun _ => [], fun _ => 0, (fun b hb => by cases hb), ⟨List.nodup_nil, List.nodup_nil, (fun b hb => by cases hb), fun x => by simp, (fun b hb => by cases hb), (fun b hb => by cases hb), (fun b hb => by cases hb), (fun b hb => by cases hb), (fun b hb => by cases hb), (fun b hb => by cases hb)⟩, trivial, (fun b hb => by cases hb), rfl, hB, (fun b hb => by cases hb), .inl ⟨rfl, rfl⟩⟩
/-- IsEmpty. -/
theorem F16_spec {k : Value → W} {w : World} {hb n : Nat} {p : Option Addr} (hB : Blk w hb 45 [.pointer p, .int .u64 (n : Nat)]) (hk : k (.bool (decide (n = 0))) w) : F16 k (some ⟨hb, 0, none⟩) w := by
  unfold F16
  simp only [NN_mk]
  refine load_int (i := 1) hB rfl ?_
  by_cases h : n = 0
  · subst h; exact hk
  · rw [show (((n : Nat) : Int) == 0) = false by rw [beq_eq_false_iff_ne]; omega]
    rw [decide_eq_false h] at hk; exact hk
/-- Size. -/
theorem F15_spec {k : Value → W} {w : World} {hb n : Nat} {p : Option Addr} (hB : Blk w hb 45 [.pointer p, .int .u64 (n : Nat)]) (hk : k (.int .u64 (n : Nat)) w) : F15 k (some ⟨hb, 0, none⟩) w := by
  unfold F15
  simp only [NN_mk]
  exact load_int (i := 1) hB rfl hk
/-- Min, of a heap that is not empty. -/
theorem F19_spec {k : Value → W} {w : World} {hb : Nat} {D : List Nat} {pr : Nat → Int} {m : Option Nat} (H : HP w hb D pr m) (h0 : D ≠ []) (hk : k (.tuple #[.pointer (oA m), .nilIface]) w) : F19 k (some ⟨hb, 0, none⟩) w := by
  unfold F19
  refine F16_call (F16_spec H.hb (back_bool ?_))
  have : D.length ≠ 0 := fun h => h0 (List.length_eq_zero_iff.1 h)
  rw [decide_eq_false this]
  simp only [BIf_false, NN_mk]
  exact load_ptr (i := 0) H.hb rfl hk

theorem For.new {s : St} {D R : List Nat} {C : Nat → List Nat} {h : Nat → Nat} (F : For s D R C h) {b : Nat} {p : Int} (hb : b ∉ D) :
    For { nx := up s.nx b b, pv := up s.pv b b, ch := up s.ch b none, pa := up s.pa b none, dg := up s.dg b 0, mkd := up s.mkd b false, pr := up s.pr b p } (b :: D) (b :: R) (up C b []) h := by
  have hne : ∀ x ∈ D, x ≠ b := fun x hx e => hb (e ▸ hx)
  have hRb : b ∉ R := fun hm => hb ((F.Rm b).1 hm).1
  have hCb : ∀ c ∈ D, b ∉ C c := fun c hc hm => hb ((F.Cm c hc b).1 hm).1
  have hpb : ∀ x ∈ D, s.pa x ≠ some b := fun x hx e => hb (F.pD x hx b e)
  refine ⟨List.nodup_cons.2 ⟨hb, F.Dn⟩, List.nodup_cons.2 ⟨hRb, F.Rn⟩, fun c hc => ?_, fun x => ?_, fun c hc0 x => ?_, fun x hx c hp => ?_, fun c hc => ?_, fun c hc => ?_, fun c hc => ?_, fun x hx c hp => ?_⟩
  · rcases List.mem_cons.1 hc with rfl | hc
    · simp
    · rw [up_ne _ _ (hne c hc)]; exact F.Cn c hc
  · by_cases hx : x = b
    · subst hx; simp
    · simp only [List.mem_cons, hx, false_or, up_ne _ _ hx]; exact F.Rm x
  · rcases List.mem_cons.1 hc0 with rfl | hc
    · simp only [up_same, List.not_mem_nil, List.mem_cons, false_iff, not_and]
      rintro (rfl | hx)
      · simp
      · simp only [up_ne _ _ (hne x hx)]; exact hpb x hx
    · rw [up_ne _ _ (hne c hc)]
      by_cases hx : x = b
      · subst hx; simp [hCb c hc]
      · simp only [List.mem_cons, hx, false_or, up_ne _ _ hx]; exact F.Cm c hc x
  · by_cases hxb : x = b
    · subst hxb; simp at hp
    · have hx' : x ∈ D := by simpa [hxb] using hx
      simp only [up_ne _ _ hxb] at hp
      exact List.mem_cons_of_mem _ (F.pD x hx' c hp)
  · rcases List.mem_cons.1 hc with rfl | hc
    · simp only [up_same]; trivial
    · simp only [up_ne _ _ (hne c hc)]
      exact ring_congr (F.Cr c hc) (fun x hx => up_ne _ _ fun e => hCb c hc (e ▸ hx)) fun x hx => up_ne _ _ fun e => hCb c hc (e ▸ hx)
  · rcases List.mem_cons.1 hc with rfl | hc
    · simp
    · simp only [up_ne _ _ (hne c hc)]; exact F.ch c hc
  · rcases List.mem_cons.1 hc with rfl | hc
    · simp
    · simp only [up_ne _ _ (hne c hc)]; exact F.dg c hc
  · by_cases hxb : x = b
    · subst hxb; simp at hp
    · have hx' : x ∈ D := by simpa [hxb] using hx
      simp only [up_ne _ _ hxb] at hp
      exact F.rk x hx' c hp
/-- A ring that begins with one of its own. -/
theorem ring_from {nx pv : Nat → Nat} {R : List Nat} {x : Nat} (h : Ring nx pv R) (hn : R.Nodup) (hx : x ∈ R) : ∃ t, Ring nx pv (x :: t) ∧ (x :: t).Nodup ∧ ∀ y, y ∈ x :: t ↔ y ∈ R := by
  obtain ⟨A, B, rfl⟩ := List.append_of_mem hx
  refine ⟨B ++ A, by have := ring_swap (A := A) (B := x :: B) h; simpa using this, ?_, fun y => ?_⟩
  · have : (A ++ x :: B).Perm (x :: (B ++ A)) := by
      have := List.perm_append_comm (l₁ := A) (l₂ := x :: B); simpa using this
    exact this.nodup_iff.1 hn
  · simp only [List.mem_append, List.mem_cons]
    constructor
    · rintro (h | h | h)
      · exact .inr (.inl h)
      · exact .inr (.inr h)
      · exact .inl h
    · rintro (h | h | h)
      · exact .inr (.inr h)
      · exact .inl h
      · exact .inr (.inl h)
/-- Enqueue. -/
theorem F17_spec {k : Value → W} {w : World} {hb : Nat} {D : List Nat} {pr : Nat → Int} {m : Option Nat} {p : Int} (H : HP w hb D pr m) (hp : Fit p) (hl : D.length < 100000)
    (hk : ∀ b m' w', b = w.heap.size → HP w' hb (b :: D) (up pr b p) m' → Fr (fun x => x = hb ∨ x ∈ D) w w' → k (.pointer (some ⟨b, 0, none⟩)) w') : F17 k (some ⟨hb, 0, none⟩) (fB p) w := by
  have hne := fun x hx => H.ne (x := x) hx
  obtain ⟨s, R, C, h, H⟩ := H
  have hpr := H.pe
  subst hpr
  unfold F17
  refine F25_call (F25_spec (p := p) H.ms fun b w1 e1 h1 f1 => back_ptr ?_)
  have hbD : b ∉ D := fun hm => by have := H.ms.lt hm; omega
  have F1 := H.fo.new (p := p) hbD
  generalize hs1 : ({ nx := up s.nx b b, pv := up s.pv b b, ch := up s.ch b none, pa := up s.pa b none, dg := up s.dg b 0, mkd := up s.mkd b false, pr := up s.pr b p } : St) = s1 at *
  have e_nx : s1.nx = up s.nx b b := by rw [← hs1]
  have e_pv : s1.pv = up s.pv b b := by rw [← hs1]
  have e_pr : s1.pr = up s.pr b p := by rw [← hs1]
  have e_pa : s1.pa = up s.pa b none := by rw [← hs1]
  have hd1 := H.hd.fr f1 id
  have hhb : hb < w.heap.size := H.hd.lt
  have hbb : hb ≠ b := by omega
  have O1 : Ordd s1 (b :: D) := fun x hx c hc => by
    rw [e_pa] at hc
    by_cases hxb : x = b
    · subst hxb; simp at hc
    · rw [up_ne _ _ hxb] at hc
      have hx' : x ∈ D := by simpa [hxb] using hx
      have hcD := H.fo.pD x hx' c hc
      rw [e_pr, up_ne _ _ hxb, up_ne _ _ (fun (e : c = b) => hbD (e ▸ hcD))]
      exact H.or x hx' c hc
  have Ft1 : ∀ x ∈ b :: D, Fit (up s.pr b p x) := fun x hx => by
    by_cases hxb : x = b
    · subst hxb; rw [up_same]; exact hp
    · rw [up_ne _ _ hxb]; exact H.ft x (by simpa [hxb] using hx)
  have Rb : Ring s1.nx s1.pv (b :: []) := ⟨⟨by rw [e_nx, up_same], by rw [e_pv, up_same]⟩, trivial⟩
  -- the end is common
  have fin : ∀ (m' : Option Nat) (s2 : St) (R2 : List Nat) (w2 : World), MS w2 (b :: D) s2 → For s2 (b :: D) R2 (up C b []) h → Ring s2.nx s2.pv R2 → s2.pr = s1.pr → s2.pa = s1.pa → Blk w2 hb 45 [.pointer (oA m), .int .u64 (D.length : Nat)] → Fr (fun x => x ∈ b :: D) w1 w2 → (∃ x ∈ R2, m' = some x ∧ ∀ y ∈ b :: D, up s.pr b p x ≤ up s.pr b p y) →
      (NN (some (⟨hb, 0, none⟩ : Addr)) fun a7 => Store1 a7 (.pointer (oA m')) <| NN (some (⟨hb, 0, none⟩ : Addr)) fun a8 => LoadT (.int .u64) (a8.add 1) fun x9 => Store1 (a8.add 1) (.int .u64 (addI .u64 x9 1)) <| k (.pointer (some ⟨b, 0, none⟩))) w2 := by
    intro m' s2 R2 w2 g1 g2 g3 g4 g5 g6 g7 g8
    simp only [NN_mk]
    refine store_intro (i := 0) g6 (by simp) rfl fun w3 b3 f3 z3 => ?_
    refine load_int (i := 1) b3 rfl ?_
    refine store_intro (i := 1) b3 (by simp) rfl fun w4 b4 f4 z4 => ?_
    have f24 : Fr (fun x => x = hb) w2 w4 := f3.trans f4 fun x e => .inl e
    rw [addI_u64 (by omega) (by omega)] at b4
    refine hk b m' w4 e1 ⟨s2, R2, _, h, g1.fr f24 fun x hx e => ?_, g2, g3, ?_, by rw [g4, e_pr], ?_, Ft1, .inr g8⟩ (((f1.mono (S' := fun x => x = hb ∨ x ∈ D) fun _ h => h.elim).trans g7 fun x hx => ?_).trans f24 fun x e => .inl (.inl e))
    · rcases List.mem_cons.1 hx with rfl | hx
      · exact hbb e.symm
      · exact hne x hx e.symm
    · intro x hx c hc
      rw [g5] at hc
      rw [g4]
      exact O1 x hx c hc
    · have : ((D.length : Nat) : Int) + 1 = (((b :: D).length : Nat) : Int) := by simp
      rw [this] at b4
      exact b4
    · rcases List.mem_cons.1 hx with rfl | hx
      · exact .inr (by omega)
      · exact .inl (.inr hx)
  simp only [NN_mk]
  refine load_ptr (i := 0) hd1 rfl ?_
  rcases H.mn with ⟨hD, rfl⟩ | ⟨x, hx, rfl, hmin⟩
  · subst hD
    have hR : R = [] := List.eq_nil_iff_forall_not_mem.2 fun x hx => by have := ((H.fo.Rm x).1 hx).1; cases this
    subst hR
    refine F26_call (F26_none1 (back_ptr ?_))
    exact fin (some b) s1 [b] w1 h1 F1 Rb rfl rfl hd1 (Fr.refl _ _) ⟨b, by simp, rfl, fun y hy => by simp only [List.mem_cons, List.not_mem_nil, or_false] at hy; rw [hy]; exact Int.le_refl _⟩
  · obtain ⟨t, r1, r2, r3⟩ := ring_from H.rr H.fo.Rn hx
    have hRD : ∀ y ∈ R, y ∈ D := fun y hy => ((H.fo.Rm y).1 hy).1
    have hxb : x ≠ b := fun e => hbD (e ▸ hRD x hx)
    have r1' : Ring s1.nx s1.pv (x :: t) := by
      refine ring_congr r1 (fun y hy => ?_) fun y hy => ?_
      · rw [e_nx]; exact up_ne _ _ fun e => hbD (e ▸ hRD y ((r3 y).1 hy))
      · rw [e_pv]; exact up_ne _ _ fun e => hbD (e ▸ hRD y ((r3 y).1 hy))
    have hnxx := (ring_mem_nx r1' (x := x) (by simp)).1
    have hnb : s1.nx b = b := by rw [e_nx, up_same]
    have hpb : s1.pr b = p := by rw [e_pr, up_same]
    have hpx : s1.pr x = s.pr x := by rw [e_pr, up_ne _ _ hxb]
    have hnd2 : (x :: t ++ b :: []).Nodup := List.nodup_append.2 ⟨r2, by simp, fun y hy z hz => by simp only [List.mem_singleton] at hz; rw [hz]; exact fun e => hbD (e ▸ hRD y ((r3 y).1 hy))⟩
    have hm := ring_merge r1' Rb hnd2
    refine F26_call (F26_both h1 (List.mem_cons_of_mem _ (hRD x hx)) (by simp) (List.mem_cons_of_mem _ (hRD _ ((r3 _).1 hnxx))) (by rw [hnb]; simp) (by rw [hpx]; exact H.ft x (hRD x hx)) (by rw [hpb]; exact hp) fun w2 h2 f2 z2 => back_ptr ?_)
    rw [hpx, hpb]
    have hmem : ∀ y, y ∈ x :: ([] ++ b :: t) ↔ y ∈ b :: R := fun y => by
      have := r3 y
      simp only [List.mem_cons, List.nil_append] at this ⊢
      constructor
      · rintro (h | h | h)
        · exact .inr (this.1 (.inl h))
        · exact .inl h
        · exact .inr (this.1 (.inr h))
      · rintro (h | h)
        · exact .inr (.inl h)
        · rcases this.2 h with h | h
          · exact .inl h
          · exact .inr (.inr h)
    have hnd3 : (x :: ([] ++ b :: t)).Nodup := by
      have : (x :: t ++ b :: []).Perm (x :: ([] ++ b :: t)) := by
        simp only [List.nil_append, List.cons_append]
        exact (List.perm_append_comm (l₁ := t) (l₂ := [b])).cons x
      exact this.nodup_iff.1 hnd2
    have F2 : For { s1 with nx := up (up s1.nx x (s1.nx b)) b (s1.nx x), pv := up (up s1.pv (s1.nx b) x) (s1.nx x) b } (b :: D) (x :: ([] ++ b :: t)) (up C b []) h := by
      refine F1.links rfl rfl rfl hmem hnd3 fun c hc y hy => ?_
      have ny : ∀ r ∈ b :: R, y ≠ r := fun r hr => F1.not_root hc hy hr
      have n1 := ny x (List.mem_cons_of_mem _ hx)
      have n2 := ny b (by simp)
      have n3 := ny _ (List.mem_cons_of_mem _ ((r3 _).1 hnxx))
      constructor
      · show up (up s1.nx x (s1.nx b)) b (s1.nx x) y = _
        rw [up_ne _ _ n2, up_ne _ _ n1]
      · show up (up s1.pv (s1.nx b) x) (s1.nx x) b y = _
        rw [up_ne _ _ n3, hnb, up_ne _ _ n2]
    have hd2 := hd1.fr f2 fun hm => by
      rcases List.mem_cons.1 hm with e | hm
      · exact hbb e
      · exact hne hb hm rfl
    refine fin (some (if s.pr x < p then x else b)) _ _ w2 h2 F2 hm rfl rfl hd2 f2 ⟨_, ?_, rfl, fun y hy => ?_⟩
    · rw [hmem]
      split
      · exact List.mem_cons_of_mem _ hx
      · simp
    · have hyb : y = b ∨ y ≠ b ∧ y ∈ D := by
        rcases List.mem_cons.1 hy with h | h
        · exact .inl h
        · exact .inr ⟨fun e => hbD (e ▸ h), h⟩
      by_cases hlt : s.pr x < p
      · rw [if_pos hlt, up_ne _ _ hxb]
        rcases hyb with rfl | ⟨h1, h2⟩
        · rw [up_same]; omega
        · rw [up_ne _ _ h1]; exact hmin y h2
      · rw [if_neg hlt, up_same]
        rcases hyb with rfl | ⟨h1, h2⟩
        · rw [up_same]; exact Int.le_refl _
        · rw [up_ne _ _ h1]; have := hmin y h2; omega
end Go.Proofs.Ytlbeelgfpbkdbaa.E
