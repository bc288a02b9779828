/-
  Skip lists: levels drawn, nodes made, nodes inserted.
-/
import Derived.Test.YtfokodpnoiilbaaGreatS2
namespace Go.Proofs.YtfokodpnoiilbaaGreat.E
open Go
set_option linter.unusedSimpArgs false
set_option linter.unusedVariables false
set_option maxRecDepth 100000
set_option maxHeartbeats 4000000

theorem add8 {i : Nat} (h : i < 200) : addI .u8 ((i : Nat) : Int) 1 = ((i + 1 : Nat) : Int) := (wrap_u8 (by omega) (by omega)).trans (by omega)
theorem und102 : Tryz.prog.underlying 103 = some (.slice 101) := by kernel_rfl
theorem und104 : Tryz.prog.underlying 105 = some (.slice 29) := by kernel_rfl
theorem inf100 : ∃ i, Tryz.prog.info? 101 = some i ∧ i.size = 1 ∧ i.zero = some (.pointer none) ∧ i.bytes ≤ 65536 := ⟨_, rfl, by kernel_rfl, by kernel_rfl, by decide⟩
theorem inf33 : ∃ i, Tryz.prog.info? 29 = some i ∧ i.size = 1 ∧ i.zero = some (.int .u64 0) ∧ i.bytes ≤ 65536 := ⟨_, rfl, by kernel_rfl, by kernel_rfl, by decide⟩
theorem mk_ptrs {n : Nat} {f : Option Addr → Nat → Nat → W} {w : World} (hn : n ≤ 64) (hk : ∀ w' b, Fr (fun _ => False) w w' → Blk w' b 101 (pts n fun _ => none) → w.heap.size ≤ b → f (some ⟨b, 0, none⟩) n n w') :
    RawT Tryz.prog (Instr.makeSlice 103 (.int .u8 (n : Nat)) (.int .u8 (n : Nat))) (.s (.one .slice)) f w := by
  obtain ⟨i, h1, h2, h3, h4⟩ := inf100
  refine make_intro n n und102 h1 h3 h2 rfl h4 (by omega) (Nat.le_refl _) fun w' f' o b z => hk w' _ f' ?_ (Nat.le_refl _)
  rw [show pts n (fun _ => none) = List.replicate n (.pointer none) from by
    apply List.ext_getElem?
    intro j
    by_cases hj : j < n
    · rw [pts_get _ hj, List.getElem?_replicate, if_pos hj]; rfl
    · rw [List.getElem?_eq_none (by rw [pts_len]; omega), List.getElem?_eq_none (by simp; omega)]]
  exact b
theorem mk_wds {n : Nat} {f : Option Addr → Nat → Nat → W} {w : World} (hn : n ≤ 64) (hk : ∀ w' b, Fr (fun _ => False) w w' → Wd w' b n → w.heap.size ≤ b → f (some ⟨b, 0, none⟩) n n w') :
    RawT Tryz.prog (Instr.makeSlice 105 (.int .u8 (n : Nat)) (.int .u8 (n : Nat))) (.s (.one .slice)) f w := by
  obtain ⟨i, h1, h2, h3, h4⟩ := inf33
  refine make_intro n n und104 h1 h3 h2 rfl h4 (by omega) (Nat.le_refl _) fun w' f' o b z => hk w' _ f' ⟨List.replicate n 0, by simp, ?_⟩ (Nat.le_refl _)
  rw [List.map_replicate]; exact b
/-- newNode. -/
theorem F33_spec {n : Nat} {v : Value} {k : Value → W} {w : World} (hn : n ≤ 64) (hv : oneC v = true)
    (hk : ∀ w' x fb wb, Blk w' x 117 [.slice (some ⟨fb, 0, none⟩) n n, .slice (some ⟨wb, 0, none⟩) n n, v] → Blk w' fb 101 (pts n fun _ => none) → Wd w' wb n → w.heap.size ≤ x → w.heap.size ≤ fb → w.heap.size ≤ wb → Fr (fun _ => False) w w' →
      k (.pointer (some ⟨x, 0, none⟩)) w') : F33 k v (n : Nat) w := by
  unfold F33
  refine drw_intro fun w1 f1 z1 => ?_
  refine ⟨?_, ?_⟩
  · refine mk_ptrs hn fun w2 fb f2 b2 l2 => mk_wds hn fun w3 wb f3 b3 l3 => ⟨hv, new_intro fun x w4 e4 b4 f4 z4 => ?_⟩
    have := f2.size
    have := f3.size
    exact hk w4 x fb wb b4 ((b2.fr f3 id).fr f4 id) (b3.fr f4 id) (by omega) (by omega) (by omega) (((f1.trans f2 fun _ h => h.elim).trans f3 fun _ h => h.elim).trans f4 fun _ h => h.elim)
  · refine mk_wds hn fun w2 wb f2 b2 l2 => mk_ptrs hn fun w3 fb f3 b3 l3 => ⟨hv, new_intro fun x w4 e4 b4 f4 z4 => ?_⟩
    have := f2.size
    have := f3.size
    exact hk w4 x fb wb b4 (b3.fr f4 id) ((b2.fr f3 id).fr f4 id) (by omega) (by omega) (by omega) (((f1.trans f2 fun _ h => h.elim).trans f3 fun _ h => h.elim).trans f4 fun _ h => h.elim)

/-! ## The list's own blocks -/
structure HC (w : World) (sl num M L h cb pb : Nat) (d : Int) (c : Nat → Option Nat) : Prop where
  hd : Blk w sl 107 [.int .u8 (M : Nat), .int .u8 (L : Nat), .pointer (some ⟨h, 0, none⟩), .int .u64 (num : Nat), .slice (some ⟨cb, 0, none⟩) M M, .slice (some ⟨pb, 0, none⟩) M M, .int .u64 d]
  ca : Blk w cb 101 (pts M c)
  pw : Wd w pb M
section
variable {w w' : World} {sl num M L h cb pb : Nat} {d : Int} {c : Nat → Option Nat} {N : List Nat} {g : G}
theorem HC.fr0 (H : HC w sl num M L h cb pb d c) (f : Fr (fun _ => False) w w') : HC w' sl num M L h cb pb d c := ⟨H.hd.fr f id, H.ca.fr f id, H.pw.fr f id⟩
theorem wd_ne {b n b' t : Nat} {vs : List Value} (hw : Wd w b n) (hb : Blk w b' t vs) (ht : t ≠ 29) : b' ≠ b := fun e => by
  obtain ⟨ws, _, hw⟩ := hw
  rw [e] at hb
  exact ht (hb.unique hw).1
theorem blk_ne {b b' t t' : Nat} {vs vs' : List Value} (hw : Blk w b t vs) (hb : Blk w b' t' vs') (ht : t' ≠ t) : b' ≠ b := fun e => by
  rw [e] at hb
  exact ht (hb.unique hw).1
theorem HC.setW (H : HC w sl num M L h cb pb d c) {b n : Nat} (hw : Wd w b n) (e : ∀ b' m, Wd w b' m → Wd w' b' m) (f : Fr (fun x => x = b) w w') : HC w' sl num M L h cb pb d c :=
  ⟨H.hd.fr f (wd_ne hw H.hd (by decide)), H.ca.fr f (wd_ne hw H.ca (by decide)), e _ _ H.pw⟩
theorem HC.setF (H : HC w sl num M L h cb pb d c) (m : MS w N g) {x : Nat} (hx : x ∈ N) (hne : g.fb x ≠ cb) (f : Fr (fun b => b = g.fb x) w w') : HC w' sl num M L h cb pb d c :=
  ⟨H.hd.fr f (blk_ne (m.n x hx).f H.hd (by decide)), H.ca.fr f (Ne.symm hne), H.pw.fr f (Ne.symm (wd_ne H.pw (m.n x hx).f (by decide)))⟩
theorem HC.setE (H : HC w sl num M L h cb pb d c) (m : MS w N g) {x : Nat} (hx : x ∈ N) (f : Fr (fun b => b = x) w w') : HC w' sl num M L h cb pb d c :=
  ⟨H.hd.fr f (blk_ne (m.n x hx).a H.hd (by decide)), H.ca.fr f (blk_ne (m.n x hx).a H.ca (by decide)), H.pw.fr f (Ne.symm (wd_ne H.pw (m.n x hx).a (by decide)))⟩
theorem HC.setH (H : HC w sl num M L h cb pb d c) {num' L' : Nat} {d' : Int}
    (b : Blk w' sl 107 [.int .u8 (M : Nat), .int .u8 (L' : Nat), .pointer (some ⟨h, 0, none⟩), .int .u64 (num' : Nat), .slice (some ⟨cb, 0, none⟩) M M, .slice (some ⟨pb, 0, none⟩) M M, .int .u64 d']) (f : Fr (fun b => b = sl) w w') :
    HC w' sl num' M L' h cb pb d' c :=
  ⟨b, H.ca.fr f (blk_ne H.hd H.ca (by decide)), H.pw.fr f (Ne.symm (wd_ne H.pw H.hd (by decide)))⟩
theorem HC.setC (H : HC w sl num M L h cb pb d c) {c' : Nat → Option Nat} (b : Blk w' cb 101 (pts M c')) (f : Fr (fun b => b = cb) w w') : HC w' sl num M L h cb pb d c' :=
  ⟨H.hd.fr f (blk_ne H.ca H.hd (by decide)), b, H.pw.fr f (Ne.symm (wd_ne H.pw H.ca (by decide)))⟩
theorem MS.setH (m : MS w N g) (H : HC w sl num M L h cb pb d c) (f : Fr (fun b => b = sl) w w') : MS w' N g :=
  m.fr f fun x hx => ⟨blk_ne H.hd (m.n x hx).a (by decide), blk_ne H.hd (m.n x hx).f (by decide), Ne.symm (wd_ne (m.n x hx).v H.hd (by decide))⟩
theorem MS.setC (m : MS w N g) (H : HC w sl num M L h cb pb d c) (hne : ∀ x ∈ N, g.fb x ≠ cb) (f : Fr (fun b => b = cb) w w') : MS w' N g :=
  m.fr f fun x hx => ⟨blk_ne H.ca (m.n x hx).a (by decide), hne x hx, Ne.symm (wd_ne (m.n x hx).v H.ca (by decide))⟩
end
section
variable {key : Value → Int} {w : World} {sl num : Nat} {ns : List Nat} {g : G} {M L h cb pb : Nat} {d : Int} {c : Nat → Option Nat}
theorem SLn.hc (s : SLn key w sl num ns g M L h cb pb d c) : HC w sl num M L h cb pb d c := ⟨s.hd, s.ca, s.pw⟩
end
/-- What a skip list is made of. -/
def Sf (sl cb pb : Nat) (N : List Nat) (g : G) (b : Nat) : Prop := b = sl ∨ b = cb ∨ b = pb ∨ ∃ y ∈ N, b = y ∨ b = g.fb y ∨ b = g.wb y

section
variable {w w0 : World} {sl num M L h cb pb : Nat} {d : Int} {c : Nat → Option Nat} {N : List Nat} {g : G}
/-- generateLevel. -/
theorem F79_spec {k : Value → W} (H : HC w sl num M L h cb pb d c) (m : MS w N g) (hM : 8 ≤ M) (hM2 : M ≤ 64)
    (hk : ∀ w' d' n, HC w' sl num M L h cb pb d' c → MS w' N g → Fr (fun b => b = sl) w w' → 1 ≤ n → n < M → k (.int .u8 ((n : Nat) : Int)) w') : F79 k (some ⟨sl, 0, none⟩) w := by
  unfold F79
  refine F79_L1_rule (I := fun sl' l' w' => sl' = some ⟨sl, 0, none⟩ ∧ ∃ (n : Nat) (d' : Int), l' = ((n : Nat) : Int) ∧ 1 ≤ n ∧ n < M ∧ HC w' sl num M L h cb pb d' c ∧ MS w' N g ∧ Fr (fun b => b = sl) w w')
    (μ := fun sl' l' w' => M - l'.toNat) ?_ ⟨rfl, 1, d, rfl, Nat.le_refl _, by omega, H, m, Fr.refl _ _⟩
  rintro _ _ w1 ⟨rfl, n, d1, rfl, h1, h2, H, m, f⟩
  unfold F79_L1
  rw [NN_mk]
  refine load_int (i := 0) H.hd rfl ?_
  rw [show subI .u8 ((M : Nat) : Int) 1 = ((M - 1 : Nat) : Int) from (wrap_u8 (by omega) (by omega)).trans (by omega)]
  refine BIf_intro (fun hc => ?_) fun _ => hk w1 d1 n H m f h1 h2
  have hc := of_decide_eq_true hc
  rw [NN_mk]
  refine load_int (i := 6) H.hd rfl ?_
  rw [NN_mk]
  refine store_intro (i := 6) H.hd (by simp) rfl fun w2 b2 f2 z2 => ?_
  have H2 := H.setH (num' := num) (L' := L) b2 f2
  have m2 := m.setH H f2
  have f02 := f.trans f2 fun _ h => .inl h
  rw [NN_mk]
  refine load_int (i := 6) H2.hd rfl ?_
  refine BIf_intro (fun _ => hk w2 _ n H2 m2 f02 h1 h2) fun _ => ?_
  rw [add8 (by omega)]
  refine ⟨⟨rfl, n + 1, _, rfl, by omega, by omega, H2, m2, f02⟩, ?_⟩
  show M - ((n + 1 : Nat) : Int).toNat < M - ((n : Nat) : Int).toNat
  omega
/-- The levels that are new get the head. -/
theorem F77_L1_spec {k : Value → W} {v : Value} {pos : Int} {l i : Nat} {cc pc pl : Nat} {pp : Option Addr} (H : HC w sl num M L h cb pb d c) (m : MS w N g) (hne : ∀ x ∈ N, g.fb x ≠ cb) (hl : l < M) (hM : M ≤ 64) (hi : i ≤ l)
    (hk : ∀ w' c', HC w' sl num M l h cb pb d c' → MS w' N g → Fr (fun b => b = sl ∨ b = cb) w w' → (∀ j, j < i → c' j = c j) → (∀ j, i ≤ j → j < l → c' j = some h) →
      F77_J2 k (some ⟨sl, 0, none⟩) v pos (some ⟨cb, 0, none⟩) M cc pp pl pc ((l : Nat) : Int) w') :
    Loop [.ptr, .any, (.int .u64), .slice, .slice, (.int .u8), (.int .u8)] (F77_L1 k) (some ⟨sl, 0, none⟩) v pos (some ⟨cb, 0, none⟩) M cc pp pl pc ((l : Nat) : Int) ((i : Nat) : Int) w := by
  refine F77_L1_rule (I := fun sl' v' pos' p1 l1 c1 p2 l2 c2 n' i' w' => sl' = some ⟨sl, 0, none⟩ ∧ v' = v ∧ pos' = pos ∧ p1 = some ⟨cb, 0, none⟩ ∧ l1 = M ∧ c1 = cc ∧ p2 = pp ∧ l2 = pl ∧ c2 = pc ∧ n' = ((l : Nat) : Int) ∧
      ∃ (t : Nat) (c' : Nat → Option Nat), i' = ((t : Nat) : Int) ∧ i ≤ t ∧ t ≤ l ∧ HC w' sl num M L h cb pb d c' ∧ MS w' N g ∧ Fr (fun b => b = sl ∨ b = cb) w w' ∧ (∀ j, j < i → c' j = c j) ∧ (∀ j, i ≤ j → j < t → c' j = some h))
    (μ := fun sl' v' pos' p1 l1 c1 p2 l2 c2 n' i' w' => l - i'.toNat) ?_ ⟨rfl, rfl, rfl, rfl, rfl, rfl, rfl, rfl, rfl, rfl, i, c, rfl, Nat.le_refl _, hi, H, m, Fr.refl _ _, fun _ _ => rfl, fun j h1 h2 => by omega⟩
  rintro _ _ _ _ _ _ _ _ _ _ _ w1 ⟨rfl, rfl, rfl, rfl, hl1, rfl, rfl, rfl, rfl, rfl, t, c1, rfl, h1, h2, H, m, f, hc1, hc2⟩
  unfold F77_L1
  rw [hl1]
  refine BIf_intro (fun hc => ?_) fun hc => ?_
  · have hc := of_decide_eq_true hc
    rw [NN_mk]
    refine load_ptr (i := 2) H.hd rfl ?_
    refine stP (v := some h) H.ca (show t < M by omega) fun w2 b2 f2 z2 => ?_
    rw [add8 (by omega)]
    refine ⟨⟨rfl, rfl, rfl, rfl, rfl, rfl, rfl, rfl, rfl, rfl, t + 1, _, rfl, by omega, by omega, H.setC b2 f2, m.setC H hne f2, f.trans f2 fun _ h => .inl (.inr h), fun j hj => ?_, fun j h3 h4 => ?_⟩, ?_⟩
    · rw [up_ne _ _ (show j ≠ t by omega)]; exact hc1 j hj
    · by_cases e : j = t
      · rw [e, up_same]
      · rw [up_ne _ _ e]; exact hc2 j h3 (by omega)
    · show l - ((t + 1 : Nat) : Int).toNat < l - ((t : Nat) : Int).toNat
      omega
  · have hc := of_decide_eq_false hc
    rw [NN_mk]
    refine store_intro (i := 1) H.hd (by simp) rfl fun w2 b2 f2 z2 => ?_
    exact hk w2 c1 (H.setH (num' := num) (L' := l) b2 f2) (m.setH H f2) (f.trans f2 fun _ h => .inl (.inl h)) hc1 fun j h3 h4 => hc2 j h3 (by omega)
/-- The widths of a level. -/
theorem F77_J3_spec {k : Value → W} {again : Option Addr → Int → Option Addr → Nat → Nat → Option Addr → Nat → Nat → Int → Option Addr → Int → W} {pos l : Int} {i p : Nat} {cc pc : Nat} {nn : Option Addr} (H : HC w sl num M L h cb pb d c) (m : MS w N g)
    (hi : i < M) (hM : M ≤ 64) (hp : c i = some p) (hp1 : p ∈ N) (hp2 : i < g.ht p) {F : Nat → Prop} (hF : ∀ y ∈ N, F (g.wb y))
    (hk : ∀ w', HC w' sl num M L h cb pb d c → MS w' N g → Fr F w w' → again (some ⟨sl, 0, none⟩) pos (some ⟨cb, 0, none⟩) M cc (some ⟨pb, 0, none⟩) M pc l nn ((i + 1 : Nat) : Int) w') :
    F77_J3 k again (some ⟨sl, 0, none⟩) pos (some ⟨cb, 0, none⟩) M cc (some ⟨pb, 0, none⟩) M pc l nn ((i : Nat) : Int) w := by
  unfold F77_J3
  refine ldP H.ca hi ?_
  rw [hp, oA_some, NN_mk]
  have hN := m.n p hp1
  refine load_slice (i := 0) hN.a rfl (ldP hN.f hp2 ?_)
  rw [add8 (by omega)]
  refine BIf_intro (fun _ => ?_) fun _ => hk w H m (Fr.refl _ _)
  refine drw_intro fun w1 f1 z1 => ?_
  have H1 := H.fr0 f1
  have m1 := m.fr0 f1
  have hN1 := m1.n p hp1
  refine ldP H1.ca hi ?_
  rw [hp, oA_some, NN_mk]
  refine load_slice (i := 1) hN1.a rfl (ldW H1.pw hi fun x => ?_)
  refine stW hN1.v hp2 fun w2 e2 f2 z2 => ?_
  exact hk w2 (H1.setW hN1.v e2 f2) (m1.setW hN1.v e2 f2) ((f1.mono (S' := F) fun _ h => h.elim).trans f2 fun b hb => .inl (by rw [show b = g.wb p from hb]; exact hF p hp1))
/-- The levels above. -/
theorem F77_L3_spec {k : Value → W} {l : Nat} {cc : Nat} (H : HC w sl num M L h cb pb d c) (m : MS w N g) (hL : L < M) (hM : M ≤ 64) (hl : l < M) (hp : ∀ i, i < L → ∃ p ∈ N, c i = some p ∧ i < g.ht p) {F : Nat → Prop} (hF : ∀ y ∈ N, F (g.wb y))
    (hk : ∀ w', HC w' sl num M L h cb pb d c → MS w' N g → Fr F w w' → k .nilIface w') :
    Loop [.ptr, .slice, (.int .u8)] (F77_L3 k) (some ⟨sl, 0, none⟩) (some ⟨cb, 0, none⟩) M cc ((l : Nat) : Int) w := by
  refine F77_L3_rule (I := fun sl' p1 l1 c1 i' w' => sl' = some ⟨sl, 0, none⟩ ∧ p1 = some ⟨cb, 0, none⟩ ∧ l1 = M ∧ c1 = cc ∧ ∃ t : Nat, i' = ((t : Nat) : Int) ∧ t ≤ M ∧ HC w' sl num M L h cb pb d c ∧ MS w' N g ∧ Fr F w w')
    (μ := fun sl' p1 l1 c1 i' w' => M - i'.toNat) ?_ ⟨rfl, rfl, rfl, rfl, l, rfl, by omega, H, m, Fr.refl _ _⟩
  rintro _ _ _ _ _ w1 ⟨rfl, rfl, hl1, rfl, t, rfl, h1, H, m, f⟩
  unfold F77_L3
  rw [hl1, NN_mk]
  refine load_int (i := 1) H.hd rfl ?_
  refine BIf_intro (fun hc => ?_) fun _ => hk w1 H m f
  have hc := of_decide_eq_true hc
  obtain ⟨p, hp1, hp2, hp3⟩ := hp t (by omega)
  have hN := m.n p hp1
  refine ldP H.ca (show t < M by omega) ?_
  rw [hp2, oA_some, NN_mk]
  refine load_slice (i := 0) hN.a rfl (ldP hN.f hp3 ?_)
  rw [add8 (by omega)]
  refine BIf_intro (fun _ => ?_) fun _ => ?_
  · refine ⟨⟨rfl, rfl, by trivial, rfl, t + 1, rfl, by omega, H, m, f⟩, ?_⟩
    show M - ((t + 1 : Nat) : Int).toNat < M - ((t : Nat) : Int).toNat
    omega
  · refine ldP H.ca (show t < M by omega) ?_
    rw [hp2, oA_some, NN_mk]
    refine load_slice (i := 1) hN.a rfl (ldW hN.v hp3 fun x => stW hN.v hp3 fun w2 e2 f2 z2 => ?_)
    refine ⟨⟨rfl, rfl, by trivial, rfl, t + 1, rfl, by omega, H.setW hN.v e2 f2, m.setW hN.v e2 f2, f.trans f2 fun b hb => .inl (by rw [show b = g.wb p from hb]; exact hF p hp1)⟩, ?_⟩
    show M - ((t + 1 : Nat) : Int).toNat < M - ((t : Nat) : Int).toNat
    omega
end
end Go.Proofs.YtfokodpnoiilbaaGreat.E
