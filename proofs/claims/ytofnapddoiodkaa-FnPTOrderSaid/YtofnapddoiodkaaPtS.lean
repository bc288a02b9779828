/-
  Plus trees: a key is put into a tree.
-/
import Derived.Test.YtofnapddoiodkaaPtR
namespace Go.Proofs.Ytofnapddoiodkaa.E
open Go
set_option linter.unusedSimpArgs false
set_option linter.unusedVariables false
set_option maxRecDepth 100000
set_option maxHeartbeats 4000000

/-- What becomes of a tree into which a key is put; its root may be full. -/
structure InsP (S base n : Nat) (t t' : Tr n) (q : KV) (lo hi : Option Int) : Prop where
  rt : root n t' = root n t
  els : els n t' = puts q (els n t)
  inn : In n lo hi t'
  sm : Sm1 S n t'
  sm' : has q.1 (Go.Proofs.Ytofnapddoiodkaa.E.els n t) = true → Sm S n t'
  ne : Ne (lfs n t')
  wk : Wk (lfs n t) (lfs n t')
  nd : (bks n t').Nodup
  bk : ∀ b ∈ bks n t', b ∈ bks n t ∨ base ≤ b

theorem puts_len' {q : KV} {l : List KV} (s : Srt l) : (puts q l).length = l.length + (if has q.1 l then 0 else 1) := by
  rw [puts_len s]
  by_cases h : ∃ y ∈ l, y.1 = q.1
  · rw [if_pos h, if_pos (has_iff.2 h)]
  · rw [if_neg h, if_neg (fun h' => h (has_iff.1 h'))]
theorem leaf_ins {S base : Nat} {l : Lf} {q : KV} {lo hi : Option Int} (hIn : In 0 lo hi l) (hs : l.ks.length < S) (h1 : geB lo q.1) (h2 : ltB hi q.1) (hnd : (bks 0 l).Nodup) : InsP S base 0 l (tl { l with ks := puts q l.ks }) q lo hi := by
  obtain ⟨s, hb⟩ := (show Srt l.ks ∧ ∀ x ∈ l.ks, geB lo x.1 ∧ ltB hi x.1 from hIn)
  have hl := puts_len' (q := q) s
  have e0 : els 0 (l : Tr 0) = l.ks := els_zero l
  refine ⟨rfl, ?_, ⟨srt_puts s, fun x hx => ?_⟩, ?_, fun h => ?_, fun y hy => ?_, ?_, hnd, fun b hb => .inl hb⟩
  · exact (els_zero (tl { l with ks := puts q l.ks })).trans (by rw [e0])
  · rcases mem_puts.1 hx with rfl | ⟨hx, _⟩
    · exact ⟨h1, h2⟩
    · exact hb x hx
  · show (puts q l.ks).length ≤ S
    rw [hl]; split <;> omega
  · show (puts q l.ks).length < S
    rw [e0] at h
    rw [hl, if_pos h]; omega
  · have hy : y ∈ [({ l with ks := puts q l.ks } : Lf)] := hy
    rw [List.mem_singleton] at hy
    subst hy
    intro e
    have : q ∈ puts q l.ks := mem_puts.2 (.inl rfl)
    rw [show puts q l.ks = [] from e] at this
    cases this
  · exact ⟨fun B hf => hf, fun x hx => hx⟩
theorem nodup_mid {X Y Z Y' : List Nat} (h : (X ++ (Y ++ Z)).Nodup) (h' : Y'.Nodup) (hs : ∀ y ∈ Y', y ∈ Y ∨ (y ∉ X ∧ y ∉ Z)) : (X ++ (Y' ++ Z)).Nodup := by
  obtain ⟨nX, nYZ, nX'⟩ := List.nodup_append.1 h
  obtain ⟨nY, nZ, nY'⟩ := List.nodup_append.1 nYZ
  refine List.nodup_append.2 ⟨nX, List.nodup_append.2 ⟨h', nZ, fun a ha b hb e => ?_⟩, fun a ha b hb e => ?_⟩
  · rcases hs a ha with h | h
    · exact nY' a h b hb e
    · exact h.2 (e ▸ hb)
  · rcases List.mem_append.1 hb with hb | hb
    · rcases hs b hb with h | h
      · exact nX' a ha b (List.mem_append_left _ h) e
      · exact h.1 (e ▸ ha)
    · exact nX' a ha b (List.mem_append_right _ hb) e
theorem has_mid {k : Int} {A B C : List KV} (hA : ∀ x ∈ A, x.1 < k) (hC : ∀ x ∈ C, k < x.1) : has k (A ++ (B ++ C)) = has k B := by
  have : has k (A ++ (B ++ C)) = true ↔ has k B = true := by
    rw [has_iff, has_iff]
    constructor
    · rintro ⟨y, hy, e⟩
      rcases List.mem_append.1 hy with h | h
      · have := hA y h; omega
      · rcases List.mem_append.1 h with h | h
        · exact ⟨y, h, e⟩
        · have := hC y h; omega
    · rintro ⟨y, hy, e⟩
      exact ⟨y, by simp [hy], e⟩
  exact Bool.eq_iff_iff.2 this
section
variable {S base n : Nat} {d : Nd} {A B : List (Tr n)} {c c' : Tr n} {q : KV} {lo hi lo' hi' : Option Int}
theorem els_mid : els (n + 1) (d, A ++ c :: B) = A.flatMap (els n) ++ (els n c ++ B.flatMap (els n)) := by
  refine (els_succ n _).trans ?_
  show (A ++ c :: B).flatMap (els n) = _
  rw [List.flatMap_append, List.flatMap_cons]
theorem lfs_mid : lfs (n + 1) (d, A ++ c :: B) = A.flatMap (lfs n) ++ (lfs n c ++ B.flatMap (lfs n)) := by
  show (A ++ c :: B).flatMap (lfs n) = _
  rw [List.flatMap_append, List.flatMap_cons]
theorem bks_mid : bks (n + 1) (d, A ++ c :: B) = [d.b, d.q, d.r] ++ (A.flatMap (bks n) ++ (bks n c ++ B.flatMap (bks n))) := by
  show d.b :: d.q :: d.r :: (A ++ c :: B).flatMap (bks n) = _
  rw [List.flatMap_append, List.flatMap_cons]; rfl
theorem Ne.parts {l m : List Lf} : Ne (l ++ m) ↔ Ne l ∧ Ne m :=
  ⟨fun h => ⟨fun x hx => h x (List.mem_append_left _ hx), fun x hx => h x (List.mem_append_right _ hx)⟩, fun ⟨h, h'⟩ x hx => (List.mem_append.1 hx).elim (h x) (h' x)⟩
/-- The child took it, and is not full. -/
theorem node_ins (hs : d.ks.length < S) (hA : ∀ a ∈ A, ∀ x ∈ els n a, x.1 < q.1) (hB : ∀ b ∈ B, ∀ x ∈ els n b, q.1 < x.1) (hsm : ∀ x ∈ A ++ c :: B, Sm S n x) (hne : Ne (lfs (n + 1) (d, A ++ c :: B))) (hnd : (bks (n + 1) (d, A ++ c :: B)).Nodup)
    (hlt : ∀ b ∈ bks (n + 1) (d, A ++ c :: B), b < base) (hc : InsP S base n c c' q lo' hi') (hCh : Ch (In n) lo hi d.ks (A ++ c' :: B)) (hf : nk n c' < S ∨ has q.1 (els n c) = true) : InsP S base (n + 1) (d, A ++ c :: B) (d, A ++ c' :: B) q lo hi := by
  have eA : ∀ x ∈ A.flatMap (els n), x.1 < q.1 := fun x hx => by
    obtain ⟨a, ha, hx⟩ := List.mem_flatMap.1 hx; exact hA a ha x hx
  have eB : ∀ x ∈ B.flatMap (els n), q.1 < x.1 := fun x hx => by
    obtain ⟨a, ha, hx⟩ := List.mem_flatMap.1 hx; exact hB a ha x hx
  have hsm' : Sm S (n + 1) (d, A ++ c' :: B) := ⟨hs, fun x hx => by
    rcases List.mem_append.1 hx with h | h
    · exact hsm x (List.mem_append_left _ h)
    · rcases List.mem_cons.1 h with rfl | h
      · rcases hf with hf | hf
        · exact hc.sm.sm hf
        · exact hc.sm' hf
      · exact hsm x (by simp [h])⟩
  rw [lfs_mid, Ne.parts, Ne.parts] at hne
  refine ⟨rfl, ?_, hCh, hsm'.sm1, fun _ => hsm', ?_, ?_, ?_, ?_⟩
  · rw [els_mid, els_mid, puts_app eA eB, hc.els]
  · rw [lfs_mid, Ne.parts, Ne.parts]
    exact ⟨hne.1, hc.ne, hne.2.2⟩
  · rw [lfs_mid, lfs_mid]
    exact hc.wk.mid _ _
  · rw [bks_mid] at hnd ⊢
    rw [bks_mid] at hlt
    rw [← List.append_assoc] at hnd ⊢
    refine nodup_mid hnd hc.nd fun y hy => ?_
    rcases hc.bk y hy with h | h
    · exact .inl h
    · refine .inr ⟨fun hm => ?_, fun hm => ?_⟩
      · have := hlt y (by rw [← List.append_assoc]; exact List.mem_append_left _ hm); omega
      · have := hlt y (by rw [← List.append_assoc]; exact List.mem_append_right _ (List.mem_append_right _ hm)); omega
  · rw [bks_mid, bks_mid]
    intro b hb
    simp only [List.mem_append] at hb ⊢
    rcases hb with h | h | h | h
    · exact .inl (.inl h)
    · exact .inl (.inr (.inl h))
    · rcases hc.bk b h with h | h
      · exact .inl (.inr (.inr (.inl h)))
      · exact .inr h
    · exact .inl (.inr (.inr (.inr h)))
theorem els_two {A' : List (Tr n)} {l r : Tr n} {d' : Nd} : els (n + 1) (d', A' ++ l :: r :: B) = A'.flatMap (els n) ++ ((els n l ++ els n r) ++ B.flatMap (els n)) := by
  refine (els_succ n _).trans ?_
  show (A' ++ l :: r :: B).flatMap (els n) = _
  rw [List.flatMap_append, List.flatMap_cons, List.flatMap_cons, List.append_assoc]
theorem lfs_two {A' : List (Tr n)} {l r : Tr n} {d' : Nd} : lfs (n + 1) (d', A' ++ l :: r :: B) = A'.flatMap (lfs n) ++ ((lfs n l ++ lfs n r) ++ B.flatMap (lfs n)) := by
  show (A' ++ l :: r :: B).flatMap (lfs n) = _
  rw [List.flatMap_append, List.flatMap_cons, List.flatMap_cons, List.append_assoc]
theorem bks_two {A' : List (Tr n)} {l r : Tr n} {d' : Nd} : bks (n + 1) (d', A' ++ l :: r :: B) = [d'.b, d'.q, d'.r] ++ (A'.flatMap (bks n) ++ ((bks n l ++ bks n r) ++ B.flatMap (bks n))) := by
  show d'.b :: d'.q :: d'.r :: (A' ++ l :: r :: B).flatMap (bks n) = _
  rw [List.flatMap_append, List.flatMap_cons, List.flatMap_cons, List.append_assoc]; rfl
/-- The child took it, was full, and was split. -/
theorem node_ins2 {A' : List (Tr n)} {l r : Tr n} {m : KV} {base2 : Nat} (hs : d.ks.length < S) (hA : ∀ a ∈ A, ∀ x ∈ els n a, x.1 < q.1) (hB : ∀ b ∈ B, ∀ x ∈ els n b, q.1 < x.1) (hsm : ∀ x ∈ A ++ c :: B, Sm S n x) (hne : Ne (lfs (n + 1) (d, A ++ c :: B))) (hnd : (bks (n + 1) (d, A ++ c :: B)).Nodup)
    (hlt : ∀ b ∈ bks (n + 1) (d, A ++ c :: B), b < base) (hc : InsP S base n c c' q lo' hi') (hsp : Spl S base2 n c' l r m lo' hi') (hb2 : base ≤ base2) (hP : FixP S n A l A') (hnh : has q.1 (els n c) = false)
    (hCh : ∀ l r (m : KV), gtB lo' m.1 → ltB hi' m.1 → In n lo' (some m.1) l → In n (some m.1) hi' r → Ch (In n) lo hi (d.ks.take A.length ++ m :: d.ks.drop A.length) (A ++ l :: r :: B)) :
    InsP S base (n + 1) (d, A ++ c :: B) ({ d with ks := d.ks.take A.length ++ m :: d.ks.drop A.length }, A' ++ l :: r :: B) q lo hi := by
  have eA : ∀ x ∈ A.flatMap (els n), x.1 < q.1 := fun x hx => by
    obtain ⟨a, ha, hx⟩ := List.mem_flatMap.1 hx; exact hA a ha x hx
  have eB : ∀ x ∈ B.flatMap (els n), q.1 < x.1 := fun x hx => by
    obtain ⟨a, ha, hx⟩ := List.mem_flatMap.1 hx; exact hB a ha x hx
  rw [lfs_mid, Ne.parts, Ne.parts] at hne
  have hklen : (d.ks.take A.length ++ m :: d.ks.drop A.length).length ≤ S := by simp; omega
  refine ⟨rfl, ?_, ?_, ⟨hklen, fun x hx => ?_⟩, fun h => ?_, ?_, ?_, ?_, ?_⟩
  · rw [els_two, els_mid, puts_app eA eB, hsp.els, hc.els, hP.el]
  · refine Ch.congr (hCh l r m hsp.lo hsp.hi hsp.inl hsp.inr) (by simp [hP.len]) fun i a b ha hb lo1 hi1 hI => ?_
    by_cases hi : i < A.length
    · rw [List.getElem?_append_left hi] at ha
      rw [List.getElem?_append_left (by rw [hP.len]; exact hi)] at hb
      exact hP.each i a b ha hb lo1 hi1 hI
    · rw [List.getElem?_append_right (by omega)] at ha
      rw [List.getElem?_append_right (by rw [hP.len]; omega), hP.len, ha] at hb
      cases hb; exact hI
  · rcases List.mem_append.1 hx with h | h
    · exact hP.sm (fun a ha => hsm a (List.mem_append_left _ ha)) x h
    · rcases List.mem_cons.1 h with rfl | h
      · exact hsp.sl
      · rcases List.mem_cons.1 h with rfl | h
        · exact hsp.sr
        · exact hsm x (by simp [h])
  · rw [els_mid, has_mid eA eB, hnh] at h
    cases h
  · rw [lfs_two, Ne.parts, Ne.parts, Ne.parts]
    refine ⟨fun y hy => ?_, ⟨hsp.nel, hsp.ner⟩, hne.2.2⟩
    obtain ⟨a, ha, hy⟩ := List.mem_flatMap.1 hy
    refine hP.ne (fun b hb => ?_) a ha y hy
    intro z hz
    exact hne.1 z (List.mem_flatMap.2 ⟨b, hb, hz⟩)
  · rw [lfs_mid, lfs_two]
    refine (hc.wk.mid _ _).trans ((hsp.wk.mid _ _).trans ?_)
    rw [List.append_assoc]
    exact hP.wk _
  · rw [bks_two, hP.bk]
    rw [bks_mid] at hnd hlt
    rw [← List.append_assoc] at hnd hlt
    show ([d.b, d.q, d.r] ++ (A.flatMap (bks n) ++ (bks n l ++ bks n r ++ B.flatMap (bks n)))).Nodup
    rw [← List.append_assoc]
    refine nodup_mid hnd hsp.nd fun y hy => ?_
    have : y ∈ bks n c ∨ base ≤ y := by
      rcases hsp.bk y hy with h | h
      · exact hc.bk y h
      · exact .inr (by omega)
    rcases this with h | h
    · exact .inl h
    · refine .inr ⟨fun hm => ?_, fun hm => ?_⟩
      · have := hlt y (List.mem_append_left _ hm); omega
      · have := hlt y (List.mem_append_right _ (List.mem_append_right _ hm)); omega
  · rw [bks_two, bks_mid, hP.bk]
    intro b hb
    have hb : b ∈ [d.b, d.q, d.r] ++ (A.flatMap (bks n) ++ ((bks n l ++ bks n r) ++ B.flatMap (bks n))) := hb
    rw [List.mem_append, List.mem_append, List.mem_append] at hb
    simp only [List.mem_append]
    rcases hb with h | h | h | h
    · exact .inl (.inl h)
    · exact .inl (.inr (.inl h))
    · rcases hsp.bk b h with h | h
      · rcases hc.bk b h with h | h
        · exact .inl (.inr (.inr (.inl h)))
        · exact .inr h
      · exact .inr (by omega)
    · exact .inl (.inr (.inr (.inr h)))
end
end Go.Proofs.Ytofnapddoiodkaa.E
