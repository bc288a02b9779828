/-
  Interval trees: rotations of trees with colours; a measure that is hidden.
-/
import Derived.Test.YthapmkjmfkmnoaaAtD
namespace Go.Proofs.Ythapmkjmfkmnoaa.E
open Go
set_option linter.unusedSimpArgs false
set_option linter.unusedVariables false
set_option maxRecDepth 100000
set_option maxHeartbeats 4000000

/-- The least number of which something is true. -/
noncomputable def lst (P : Nat → Prop) : Nat := Classical.epsilon fun n => P n ∧ ∀ m, P m → n ≤ m
theorem lst_spec {P : Nat → Prop} (h : ∃ n, P n) : P (lst P) ∧ ∀ m, P m → lst P ≤ m := by
  refine Classical.epsilon_spec (p := fun n => P n ∧ ∀ m, P m → n ≤ m) ?_
  obtain ⟨n, hn⟩ := h
  induction n using Nat.strongRecOn with
  | _ n ih =>
    by_cases h : ∃ m, m < n ∧ P m
    · obtain ⟨m, h1, h2⟩ := h; exact ih m h1 h2
    · exact ⟨n, hn, fun m hm => Nat.le_of_not_lt fun h' => h ⟨m, h', hm⟩⟩
theorem lst_lt {P Q : Nat → Prop} (h : ∃ n, P n) (hk : ∀ n, P n → ∃ m, m < n ∧ Q m) : lst Q < lst P := by
  obtain ⟨m, h1, h2⟩ := hk _ (lst_spec h).1
  exact Nat.lt_of_le_of_lt ((lst_spec ⟨m, h2⟩).2 m h2) h1
theorem Hd.re {s : St} {n : Nd} {y : Nat} (hx : (s y).x = some n.x) {b : Nat} (hb : b = y) : Hd (s y) { b := b, x := n.x, mx := (s y).mx, mn := (s y).mn, red := (s y).red } := ⟨hx, rfl, rfl, rfl⟩
/-- A node as it is in a state. -/
def now (s : St) (n : Nd) : Nd := { n with mx := (s n.b).mx, mn := (s n.b).mn, red := (s n.b).red }
theorem now_hd {s : St} {n : Nd} (hx : (s n.b).x = some n.x) : Hd (s n.b) (now s n) := ⟨hx, rfl, rfl, rfl⟩
theorem now_of {s : St} {n : Nd} (h : Hd (s n.b) n) : now s n = n := by
  obtain ⟨h1, h2, h3, h4⟩ := h
  unfold now; rw [h2, h3, h4]
theorem Rep.lf_of {s : St} {o : Option Nat} (h : Rep s o .lf) : o = none := by
  cases o with
  | none => rfl
  | some b => exact h.elim
section
variable {w : World} {D : List Nat} {s : St} {k : Value → W} {d : Nat}
theorem three_nodup {A B C : CT} {b c : Nd} (hn : (CT.mk d A b (CT.mk d B c C)).bls.Nodup) : b.b ∉ A.bls ∧ c.b ∉ A.bls ∧ b.b ∉ B.bls ∧ c.b ∉ B.bls ∧ b.b ∉ C.bls ∧ c.b ∉ C.bls ∧ b.b ≠ c.b := by
  have := two_nodup (A := A.sh) (B := B.sh) (C := C.sh) (b := b.b) (c := c.b) (d := d) (by rw [← CT.mk_sh, ← CT.mk_sh, CT.sh_ino]; exact hn)
  simpa only [CT.sh_ino] using this
/-- rotate. -/
theorem rotT {A B C : CT} {b c : Nd} (h : MS w D s) (hd : d < 2) (hR : RepT s (some b.b) (CT.mk d A b (CT.mk d B c C))) (hn : (CT.mk d A b (CT.mk d B c C)).bls.Nodup) (hD : ∀ y ∈ (CT.mk d A b (CT.mk d B c C)).bls, y ∈ D)
    (hk : ∀ w' s' b' c', MS w' D s' → RepT s' (some c.b) (CT.mk d (CT.mk d A b' B) c' C) → b'.b = b.b → b'.x = b.x → b'.red = true → c'.b = c.b → c'.x = c.x → c'.red = false →
      (BndT (CT.mk d A b (CT.mk d B c C)) → BndT (CT.mk d (CT.mk d A b' B) c' C)) → b.mx ≤ c'.mx → c'.mn ≤ b.mn → (∀ y, y ≠ b.b → y ≠ c.b → s' y = s y) → Fr (fun y => y = b.b ∨ y = c.b) w w' → k (.pointer (some ⟨c.b, 0, none⟩)) w') :
    F48 k (some ⟨b.b, 0, none⟩) ((d : Nat) : Int) w := by
  obtain ⟨n1, n2, n3, n4, n5, n6, hbc⟩ := three_nodup hn
  have hR0 := hR
  obtain ⟨-, hb, rA, r1⟩ := (RepT.mk_iff hd).1 hR
  have e1 := r1.blk
  rw [CT.mk_blk] at e1
  rw [e1] at r1
  obtain ⟨-, hc, rB, rC⟩ := (RepT.mk_iff hd).1 r1
  have eT : (CT.mk d A b (CT.mk d B c C)).sh = Tr.mk d A.sh b.b (Tr.mk d B.sh c.b C.sh) := by rw [CT.mk_sh, CT.mk_sh]
  have R := hR.1
  rw [eT] at R
  refine rotate_spec (A := A.sh) (B := B.sh) (C := C.sh) h hd R (by rw [← eT, CT.sh_ino]; exact hn) (fun y hy => hD y (by rw [← eT, CT.sh_ino] at hy; exact hy)) (by rw [← eT]; exact hR.has) fun w' s' m' r' bn top x' red1 red2 oth f' => ?_
  have hbn : (s' b.b).x = some b.x := by rw [x']; exact hb.1
  have hcn : (s' c.b).x = some c.x := by rw [x']; exact hc.1
  have eN : (CT.mk d (CT.mk d A (now s' b) B) (now s' c) C).sh = Tr.mk d (Tr.mk d A.sh b.b B.sh) c.b C.sh := by rw [CT.mk_sh, CT.mk_sh]; rfl
  have keep : ∀ {t : CT}, (∀ n ∈ t.nds, Hd (s n.b) n) → b.b ∉ t.bls → c.b ∉ t.bls → ∀ n ∈ t.nds, Hd (s' n.b) n := fun {t} ht h1 h2 n hn => by
    have hm : n.b ∈ t.bls := List.mem_map.2 ⟨n, hn, rfl⟩
    rw [oth n.b (fun e => h1 (by rw [← e]; exact hm)) (fun e => h2 (by rw [← e]; exact hm))]; exact ht n hn
  have all : ∀ n ∈ (CT.mk d (CT.mk d A (now s' b) B) (now s' c) C).nds, Hd (s' n.b) n := fun n hn => by
    rw [(CT.mk_nds _ _ _ _).mem_iff] at hn
    simp only [List.mem_cons, List.mem_append, (CT.mk_nds _ _ _ _).mem_iff] at hn
    rcases hn with rfl | (rfl | hn | hn) | hn
    · exact now_hd hcn
    · exact now_hd hbn
    · exact keep rA.2 n1 n2 n hn
    · exact keep rB.2 n3 n4 n hn
    · exact keep rC.2 n5 n6 n hn
  refine hk w' s' (now s' b) (now s' c) m' ⟨by rw [eN]; exact r', all⟩ rfl rfl red1 rfl rfl red2 (fun hB => ?_) (by rw [← hb.2.1]; exact top.1) (by rw [← hb.2.2.1]; exact top.2) oth f'
  rw [← bnd_iff all, eN]
  refine bn ?_
  rw [← eT, bnd_iff hR0.2]; exact hB
/-- doubleRotate. -/
theorem rot2T {A B C G : CT} {b c e : Nd} (h : MS w D s) (hd : d < 2) (hR : RepT s (some b.b) (CT.mk d A b (CT.mk d (CT.mk d B e C) c G))) (hn : (CT.mk d A b (CT.mk d (CT.mk d B e C) c G)).bls.Nodup) (hD : ∀ y ∈ (CT.mk d A b (CT.mk d (CT.mk d B e C) c G)).bls, y ∈ D)
    (hk : ∀ w' s' b' c' e', MS w' D s' → RepT s' (some e.b) (CT.mk d (CT.mk d A b' B) e' (CT.mk d C c' G)) → b'.b = b.b → b'.x = b.x → b'.red = true → c'.b = c.b → c'.x = c.x → c'.red = true → e'.b = e.b → e'.x = e.x → e'.red = false →
      (BndT (CT.mk d A b (CT.mk d (CT.mk d B e C) c G)) → BndT (CT.mk d (CT.mk d A b' B) e' (CT.mk d C c' G))) → b.mx ≤ e'.mx → e'.mn ≤ b.mn → (∀ y, y ≠ b.b → y ≠ c.b → y ≠ e.b → s' y = s y) → Fr (fun y => y = b.b ∨ y = c.b ∨ y = e.b) w w' → k (.pointer (some ⟨e.b, 0, none⟩)) w') :
    F49 k (some ⟨b.b, 0, none⟩) ((d : Nat) : Int) w := by
  have hn0 := hn
  have p0 := (CT.mk_bls d A (CT.mk d (CT.mk d B e C) c G) b).nodup_iff.1 hn
  have p1 : (CT.mk d (CT.mk d B e C) c G).bls.Perm (c.b :: ((e.b :: (B.bls ++ C.bls)) ++ G.bls)) := (CT.mk_bls _ _ _ _).trans (List.Perm.cons _ (List.Perm.append_right _ (CT.mk_bls _ _ _ _)))
  have p2 := (List.Perm.cons b.b (List.Perm.append_left A.bls p1)).nodup_iff.1 p0
  simp only [List.nodup_cons, List.nodup_append, List.mem_append, List.mem_cons, not_or, List.cons_append] at p2
  obtain ⟨⟨b1, b2, b3, ⟨b4, b5⟩, b6⟩, -, ⟨⟨c1, ⟨c2, c3⟩, c4⟩, ⟨⟨e1, e2⟩, e3⟩, -, -, -⟩, a1⟩ := p2
  have aC : c.b ∉ A.bls := fun h => a1 c.b h c.b (.inl rfl) rfl
  have aE : e.b ∉ A.bls := fun h => a1 e.b h e.b (.inr (.inl rfl)) rfl
  obtain ⟨-, hb, rA, r1⟩ := (RepT.mk_iff hd).1 hR
  have g1 := r1.blk
  rw [CT.mk_blk] at g1
  rw [g1] at r1
  obtain ⟨-, hc, r2, rG⟩ := (RepT.mk_iff hd).1 r1
  have g2 := r2.blk
  rw [CT.mk_blk] at g2
  rw [g2] at r2
  obtain ⟨-, he, rB, rC⟩ := (RepT.mk_iff hd).1 r2
  have eT : (CT.mk d A b (CT.mk d (CT.mk d B e C) c G)).sh = Tr.mk d A.sh b.b (Tr.mk d (Tr.mk d B.sh e.b C.sh) c.b G.sh) := by rw [CT.mk_sh, CT.mk_sh, CT.mk_sh]
  have R := hR.1
  rw [eT] at R
  refine rotate2_spec (A := A.sh) (B := B.sh) (C := C.sh) (E := G.sh) h hd R (by rw [← eT, CT.sh_ino]; exact hn0) (fun y hy => hD y (by rw [← eT, CT.sh_ino] at hy; exact hy)) (by rw [← eT]; exact hR.has) fun w' s' m' r' bn top x' red1 red2 red3 oth f' => ?_
  have hbn : (s' b.b).x = some b.x := by rw [x']; exact hb.1
  have hcn : (s' c.b).x = some c.x := by rw [x']; exact hc.1
  have hen : (s' e.b).x = some e.x := by rw [x']; exact he.1
  have eN : (CT.mk d (CT.mk d A (now s' b) B) (now s' e) (CT.mk d C (now s' c) G)).sh = Tr.mk d (Tr.mk d A.sh b.b B.sh) e.b (Tr.mk d C.sh c.b G.sh) := by rw [CT.mk_sh, CT.mk_sh, CT.mk_sh]; rfl
  have keep : ∀ {t : CT}, (∀ n ∈ t.nds, Hd (s n.b) n) → b.b ∉ t.bls → c.b ∉ t.bls → e.b ∉ t.bls → ∀ n ∈ t.nds, Hd (s' n.b) n := fun {t} ht h1 h2 h3 n hn => by
    have hm : n.b ∈ t.bls := List.mem_map.2 ⟨n, hn, rfl⟩
    rw [oth n.b (fun e => h1 (by rw [← e]; exact hm)) (fun e => h2 (by rw [← e]; exact hm)) (fun e => h3 (by rw [← e]; exact hm))]; exact ht n hn
  have all : ∀ n ∈ (CT.mk d (CT.mk d A (now s' b) B) (now s' e) (CT.mk d C (now s' c) G)).nds, Hd (s' n.b) n := fun n hn => by
    rw [(CT.mk_nds _ _ _ _).mem_iff] at hn
    simp only [List.mem_cons, List.mem_append, (CT.mk_nds _ _ _ _).mem_iff] at hn
    rcases hn with rfl | (rfl | hn | hn) | (rfl | hn | hn)
    · exact now_hd hen
    · exact now_hd hbn
    · exact keep rA.2 b1 aC aE n hn
    · exact keep rB.2 b4 c2 e1 n hn
    · exact now_hd hcn
    · exact keep rC.2 b5 c3 e2 n hn
    · exact keep rG.2 b6 c4 e3 n hn
  refine hk w' s' (now s' b) (now s' c) (now s' e) m' ⟨by rw [eN]; exact r', all⟩ rfl rfl red1 rfl rfl red2 rfl rfl red3 (fun hB => ?_) (by rw [← hb.2.1]; exact top.1) (by rw [← hb.2.2.1]; exact top.2) oth f'
  rw [← bnd_iff all, eN]
  refine bn ?_
  rw [← eT, bnd_iff hR.2]; exact hB
end
end Go.Proofs.Ythapmkjmfkmnoaa.E
