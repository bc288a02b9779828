/-
  Interval trees: a double rotation of a tree that a state holds.
-/
import Derived.Test.YthapmkjmfkmnoaaAt6
namespace Go.Proofs.Ythapmkjmfkmnoaa.E
open Go
set_option linter.unusedSimpArgs false
set_option linter.unusedVariables false
set_option maxRecDepth 100000
set_option maxHeartbeats 4000000

open Tr
theorem Tr.mk_flip {d : Nat} (hd : d < 2) (x y : Tr) (b : Nat) : Tr.mk (1 - d) x b y = Tr.mk d y b x := by
  have : d = 0 ∨ d = 1 := by omega
  rcases this with rfl | rfl <;> rfl
theorem setC_mn (n : Nn) (d : Nat) (o : Option Nat) : (setC n d o).mn = n.mn := by unfold setC; split <;> rfl
/-- doubleRotate, of a tree. -/
theorem rotate2_spec {w : World} {D : List Nat} {s : St} {b c e d : Nat} {k : Value → W} {A B C E : Tr} (h : MS w D s) (hd : d < 2) (hR : Rep s (some b) (Tr.mk d A b (Tr.mk d (Tr.mk d B e C) c E))) (hn : (Tr.mk d A b (Tr.mk d (Tr.mk d B e C) c E)).ino.Nodup) (hD : ∀ y ∈ (Tr.mk d A b (Tr.mk d (Tr.mk d B e C) c E)).ino, y ∈ D)
    (hx : Has s (Tr.mk d A b (Tr.mk d (Tr.mk d B e C) c E)))
    (hk : ∀ w' s', MS w' D s' → Rep s' (some e) (Tr.mk d (Tr.mk d A b B) e (Tr.mk d C c E)) → (Bnd s (Tr.mk d A b (Tr.mk d (Tr.mk d B e C) c E)) → Bnd s' (Tr.mk d (Tr.mk d A b B) e (Tr.mk d C c E))) → (s b).mx ≤ (s' e).mx ∧ (s' e).mn ≤ (s b).mn → (∀ y, (s' y).x = (s y).x) → (s' b).red = true → (s' c).red = true → (s' e).red = false → (∀ y, y ≠ b → y ≠ c → y ≠ e → s' y = s y) → Fr (fun y => y = b ∨ y = c ∨ y = e) w w' → k (.pointer (some ⟨e, 0, none⟩)) w') :
    F49 k (some ⟨b, 0, none⟩) ((d : Nat) : Int) w := by
  have hd' : 1 - d < 2 := by omega
  have edd : 1 - (1 - d) = d := by omega
  -- the tree at c, told from its other side
  have eT : Tr.mk d (Tr.mk d B e C) c E = Tr.mk (1 - d) E c (Tr.mk (1 - d) C e B) := by rw [Tr.mk_flip hd, Tr.mk_flip hd]
  have eT' : Tr.mk (1 - d) (Tr.mk (1 - d) E c C) e B = Tr.mk d B e (Tr.mk d C c E) := by rw [Tr.mk_flip hd, Tr.mk_flip hd]
  have perm := Tr.ino_perm d A (Tr.mk d (Tr.mk d B e C) c E) b
  have hn' := perm.nodup_iff.1 hn
  obtain ⟨hbn, hn2⟩ := List.nodup_cons.1 hn'
  obtain ⟨nA, nT, nAT⟩ := List.nodup_append.1 hn2
  have hbA : b ∉ A.ino := fun h => hbn (List.mem_append_left _ h)
  have hbT : b ∉ (Tr.mk d (Tr.mk d B e C) c E).ino := fun h => hbn (List.mem_append_right _ h)
  have mcT : c ∈ (Tr.mk d (Tr.mk d B e C) c E).ino := by rw [Tr.mem_mk]; exact .inr (.inl rfl)
  have meT : e ∈ (Tr.mk d (Tr.mk d B e C) c E).ino := by rw [Tr.mem_mk, Tr.mem_mk]; exact .inl (.inr (.inl rfl))
  have hbc : b ≠ c := fun x => hbT (x ▸ mcT)
  have hbe : b ≠ e := fun x => hbT (x ▸ meT)
  have hcA : c ∉ A.ino := fun h => nAT c h c mcT rfl
  have heA : e ∉ A.ino := fun h => nAT e h e meT rfl
  rw [Rep.mk_iff hd] at hR
  obtain ⟨_, rA, rT⟩ := hR
  have h1 := rT.some_mk
  have mbD : b ∈ D := hD b (by rw [Tr.mem_mk]; exact .inr (.inl rfl))
  have sub : ∀ y ∈ (Tr.mk d (Tr.mk d B e C) c E).ino, y ∈ D := fun y hy => hD y (by rw [Tr.mem_mk]; exact .inr (.inr hy))
  have hxT : Has s (Tr.mk d (Tr.mk d B e C) c E) := fun y hy => hx y (by rw [Tr.mem_mk]; exact .inr (.inr hy))
  unfold F49
  refine F50_call (F50_spec hd (back_int ?_))
  refine drw_intro fun w1 f1 z1 => ?_
  have m1 := h.fr0 f1
  simp only [NN_mk, add_mk, Nat.zero_add, Int.toNat_natCast]
  refine Req_iff.2 ⟨by omega, ld_ch m1 mbD (by omega) ?_⟩
  rw [h1] at rT ⊢
  rw [eT] at rT nT sub hxT hbT
  refine F48_call (rotate_spec (b := c) (c := e) (d := 1 - d) m1 hd' rT nT sub hxT fun w2 s1 m2 r2 b2 top2 x2 red1 red2 oth f2 => back_ptr ?_)
  rw [eT'] at r2 b2
  rw [← eT] at b2
  have memT : ∀ y, y ∈ (Tr.mk d B e (Tr.mk d C c E)).ino ↔ y ∈ (Tr.mk (1 - d) E c (Tr.mk (1 - d) C e B)).ino := fun y => by
    rw [Tr.mem_mk, Tr.mem_mk, Tr.mem_mk, Tr.mem_mk]
    constructor
    · rintro (h | h | h | h | h)
      · exact .inr (.inr (.inr (.inr h)))
      · exact .inr (.inr (.inr (.inl h)))
      · exact .inr (.inr (.inl h))
      · exact .inr (.inl h)
      · exact .inl h
    · rintro (h | h | h | h | h)
      · exact .inr (.inr (.inr (.inr h)))
      · exact .inr (.inr (.inr (.inl h)))
      · exact .inr (.inr (.inl h))
      · exact .inr (.inl h)
      · exact .inl h
  have hbT' : b ∉ (Tr.mk d B e (Tr.mk d C c E)).ino := fun h => hbT ((memT b).1 h)
  refine Req_iff.2 ⟨by omega, ?_⟩
  show Store1 ⟨b, 3 + (1 - d), none⟩ (.pointer (oA (some e))) _ w2
  refine st_ch m2 mbD (by omega) fun w3 m3 f3 z3 => ?_
  have sb : s1 b = s b := oth b hbc hbe
  rw [sb] at m3
  have u2 : ∀ y, y ≠ b → up s1 b (setC (s b) (1 - d) (some e)) y = s1 y := fun y hy => up_ne hy
  have xs : ∀ y, ((up s1 b (setC (s b) (1 - d) (some e))) y).x = (s y).x := fun y => by
    by_cases ey : y = b
    · rw [ey, up_same, setC_x]
    · rw [u2 y ey, x2]
  have mem2 : ∀ y, y ∈ (Tr.mk d A b (Tr.mk d B e (Tr.mk d C c E))).ino ↔ y ∈ (Tr.mk d A b (Tr.mk d (Tr.mk d B e C) c E)).ino := fun y => by
    rw [Tr.mem_mk, memT, ← eT, ← Tr.mem_mk]
  have A1 : ∀ y ∈ A.ino, up s1 b (setC (s b) (1 - d) (some e)) y = s y := fun y hy => by
    rw [u2 y (fun x => hbA (x ▸ hy)), oth y (fun x => hcA (x ▸ hy)) (fun x => heA (x ▸ hy))]
  have T1 : ∀ y ∈ (Tr.mk d B e (Tr.mk d C c E)).ino, up s1 b (setC (s b) (1 - d) (some e)) y = s1 y := fun y hy => u2 y (fun x => hbT' (x ▸ hy))
  have hR3 : Rep (up s1 b (setC (s b) (1 - d) (some e))) (some b) (Tr.mk d A b (Tr.mk d B e (Tr.mk d C c E))) := by
    rw [Rep.mk_iff hd]
    refine ⟨rfl, ?_, ?_⟩
    · rw [up_same, ch_setC_ne _ _ hd' hd (by omega)]
      exact rA.frame fun y hy => by rw [A1 y hy]; exact ⟨rfl, rfl⟩
    · rw [up_same, ch_setC]
      exact r2.frame fun y hy => by rw [T1 y hy]; exact ⟨rfl, rfl⟩
  have hB3 : Bnd s (Tr.mk d A b (Tr.mk d (Tr.mk d B e C) c E)) → Bnd (up s1 b (setC (s b) (1 - d) (some e))) (Tr.mk d A b (Tr.mk d B e (Tr.mk d C c E))) := fun hB => by
    rw [Bnd.mk_iff] at hB
    obtain ⟨all, bA, bT⟩ := hB
    have b2 := b2 bT
    rw [Bnd.mk_iff]
    refine ⟨fun z hz => ?_, bA.frame fun y hy => by rw [A1 y hy]; exact ⟨rfl, rfl, rfl⟩, b2.frame fun y hy => by rw [T1 y hy]; exact ⟨rfl, rfl, rfl⟩⟩
    have := all z ((mem2 z).1 hz)
    unfold hiS loS at *
    rw [xs z, up_same, setC_mx, setC_mn]
    exact this
  have hn3 : (Tr.mk d A b (Tr.mk d B e (Tr.mk d C c E))).ino.Nodup := by
    have e1 : (Tr.mk d B e (Tr.mk d C c E)).ino = (Tr.mk d (Tr.mk d B e C) c E).ino := Tr.ino_rot d B C E e c
    have : (Tr.mk d A b (Tr.mk d B e (Tr.mk d C c E))).ino = (Tr.mk d A b (Tr.mk d (Tr.mk d B e C) c E)).ino := by
      unfold Tr.mk
      split <;> simp [ino]
    rw [this]; exact hn
  have cT' : c ≠ e := fun x => by
    have := (two_nodup nT).2.2.2.2.2.2
    exact this x
  refine F48_call (rotate_spec (b := b) (c := e) (d := d) m3 hd hR3 hn3 (fun y hy => hD y ((mem2 y).1 hy)) (fun y hy => by rw [xs y]; exact hx y ((mem2 y).1 hy)) fun w4 s4 m4 r4 b4 top4 x4 red4 red5 oth4 f4 => back_ptr ?_)
  refine hk w4 s4 m4 r4 (fun h => b4 (hB3 h)) (by rw [up_same, setC_mx, setC_mn] at top4; exact top4) (fun y => (x4 y).trans (xs y)) red4 ?_ red5 (fun y h1 h2 h3 => ?_) ?_
  · rw [oth4 c (Ne.symm hbc) cT', u2 c (Ne.symm hbc)]; exact red1
  · rw [oth4 y h1 h3, u2 y h1, oth y h2 h3]
  · exact (((f1.mono fun _ h => h.elim).trans f2 fun y h => .inl (.inr h)).trans f3 fun y h => .inl (.inl h)).trans f4 fun y h => .inl (h.elim .inl fun h => .inr (.inr h))
end Go.Proofs.Ythapmkjmfkmnoaa.E
