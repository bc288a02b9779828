/-
  Plus trees, plain: leaves and inner nodes know their blocks; bounds; what is put; which leaf points where.
-/
namespace Go.Proofs.Ytofnapddoiodkaa.E
set_option linter.unusedSimpArgs false
set_option linter.unusedVariables false

abbrev KV := Int × Int
/-! ## Sorted lists -/
def Srt (l : List KV) : Prop := l.Pairwise fun a b => a.1 < b.1
def les (k : Int) (l : List KV) : List KV := l.filter fun x => decide (x.1 < k)
def mor (k : Int) (l : List KV) : List KV := l.filter fun x => decide (k < x.1)
def puts (q : KV) (l : List KV) : List KV := les q.1 l ++ q :: mor q.1 l
theorem mem_les {k : Int} {l : List KV} {x : KV} : x ∈ les k l ↔ x ∈ l ∧ x.1 < k := by simp [les]
theorem mem_mor {k : Int} {l : List KV} {x : KV} : x ∈ mor k l ↔ x ∈ l ∧ k < x.1 := by simp [mor]
theorem mem_puts {q x : KV} {l : List KV} : x ∈ puts q l ↔ x = q ∨ (x ∈ l ∧ x.1 ≠ q.1) := by
  simp only [puts, List.mem_append, List.mem_cons, mem_les, mem_mor]
  constructor
  · rintro (⟨h, h'⟩ | h | ⟨h, h'⟩)
    · exact .inr ⟨h, by omega⟩
    · exact .inl h
    · exact .inr ⟨h, by omega⟩
  · rintro (h | ⟨h, h'⟩)
    · exact .inr (.inl h)
    · rcases Int.lt_or_gt_of_ne h' with g | g
      · exact .inl ⟨h, g⟩
      · exact .inr (.inr ⟨h, g⟩)
theorem srt_puts {q : KV} {l : List KV} (h : Srt l) : Srt (puts q l) := by
  refine List.pairwise_append.2 ⟨h.sublist List.filter_sublist, List.pairwise_cons.2 ⟨fun x hx => (mem_mor.1 hx).2, h.sublist List.filter_sublist⟩, fun a ha b hb => ?_⟩
  have := (mem_les.1 ha).2
  rcases List.mem_cons.1 hb with rfl | hb
  · exact this
  · have := (mem_mor.1 hb).2; omega
/-- Sorted: the lesser ones, those alike, the greater ones. -/
theorem srt_parts {k : Int} : ∀ {l : List KV}, Srt l → l = les k l ++ l.filter (fun x => decide (x.1 = k)) ++ mor k l
  | [], _ => rfl
  | a :: l, s => by
    obtain ⟨h1, h2⟩ := List.pairwise_cons.1 s
    have ih := srt_parts (k := k) h2
    rcases Int.lt_trichotomy a.1 k with ha | ha | ha
    · rw [show les k (a :: l) = a :: les k l by simp [les, ha], show mor k (a :: l) = mor k l by simp [mor, show ¬ k < a.1 by omega],
        show (a :: l).filter (fun x => decide (x.1 = k)) = l.filter (fun x => decide (x.1 = k)) by simp [List.filter_cons, show ¬ a.1 = k by omega]]
      simp only [List.cons_append]
      rw [← ih]
    · have e1 : les k (a :: l) = [] := by
        simp only [les, List.filter_eq_nil_iff]
        intro x hx
        rcases List.mem_cons.1 hx with rfl | hx
        · simp; omega
        · have := h1 x hx; simp; omega
      have e2 : les k l = [] := by
        simp only [les, List.filter_eq_nil_iff]
        intro x hx
        have := h1 x hx; simp; omega
      rw [e1, show mor k (a :: l) = mor k l by simp [mor, show ¬ k < a.1 by omega], show (a :: l).filter (fun x => decide (x.1 = k)) = a :: l.filter (fun x => decide (x.1 = k)) by simp [ha]]
      rw [e2] at ih
      simp only [List.nil_append, List.cons_append] at ih ⊢
      rw [← ih]
    · have e1 : les k (a :: l) = [] := by
        simp only [les, List.filter_eq_nil_iff]
        intro x hx
        rcases List.mem_cons.1 hx with rfl | hx
        · simp; omega
        · have := h1 x hx; simp; omega
      have e2 : les k l = [] := by
        simp only [les, List.filter_eq_nil_iff]
        intro x hx
        have := h1 x hx; simp; omega
      have e3 : l.filter (fun x => decide (x.1 = k)) = [] := by
        simp only [List.filter_eq_nil_iff]
        intro x hx
        have := h1 x hx; simp; omega
      rw [e1, show mor k (a :: l) = a :: mor k l by simp [mor, ha], show (a :: l).filter (fun x => decide (x.1 = k)) = [] by rw [List.filter_cons, e3, if_neg (by simp; omega)]]
      rw [e2, e3] at ih
      simp only [List.nil_append] at ih ⊢
      rw [← ih]
/-- Of a key there is one at most. -/
theorem srt_one {k : Int} : ∀ {l : List KV}, Srt l → (l.filter (fun x => decide (x.1 = k))).length ≤ 1
  | [], _ => by simp
  | a :: l, s => by
    obtain ⟨h1, h2⟩ := List.pairwise_cons.1 s
    by_cases ha : a.1 = k
    · have : l.filter (fun x => decide (x.1 = k)) = [] := by
        simp only [List.filter_eq_nil_iff]
        intro x hx
        have := h1 x hx; simp; omega
      rw [List.filter_cons, if_pos (by simpa using ha), this]; simp
    · rw [List.filter_cons, if_neg (by simpa using ha)]; exact srt_one h2
theorem puts_app {q : KV} {A B C : List KV} (hA : ∀ x ∈ A, x.1 < q.1) (hC : ∀ x ∈ C, q.1 < x.1) : puts q (A ++ (B ++ C)) = A ++ (puts q B ++ C) := by
  have a1 : les q.1 A = A := List.filter_eq_self.2 fun x hx => by simpa using hA x hx
  have a2 : mor q.1 A = [] := List.filter_eq_nil_iff.2 fun x hx => by have := hA x hx; simp; omega
  have c1 : les q.1 C = [] := List.filter_eq_nil_iff.2 fun x hx => by have := hC x hx; simp; omega
  have c2 : mor q.1 C = C := List.filter_eq_self.2 fun x hx => by simpa using hC x hx
  have e1 : les q.1 (A ++ (B ++ C)) = A ++ les q.1 B := by
    rw [show les q.1 (A ++ (B ++ C)) = les q.1 A ++ (les q.1 B ++ les q.1 C) by simp [les], a1, c1, List.append_nil]
  have e2 : mor q.1 (A ++ (B ++ C)) = mor q.1 B ++ C := by
    rw [show mor q.1 (A ++ (B ++ C)) = mor q.1 A ++ (mor q.1 B ++ mor q.1 C) by simp [mor], a2, c2, List.nil_append]
  simp only [puts, e1, e2, List.append_assoc, List.cons_append]
/-- Where a key would stand. -/
def pos (k : Int) (l : List KV) : Nat := (les k l).length
theorem pos_le (k : Int) (l : List KV) : pos k l ≤ l.length := List.length_filter_le _ _
/-- What stands at the place, and what becomes of the list. -/
theorem pos_cases {q : KV} {l : List KV} (s : Srt l) :
    (∀ j x, l[j]? = some x → (j < pos q.1 l ↔ x.1 < q.1)) ∧
    ((pos q.1 l = l.length ∧ (∀ x ∈ l, x.1 < q.1) ∧ puts q l = l ++ [q]) ∨
     (∃ x, l[pos q.1 l]? = some x ∧ x.1 = q.1 ∧ x ∈ l ∧ puts q l = l.set (pos q.1 l) q) ∨
     (∃ x, l[pos q.1 l]? = some x ∧ q.1 < x.1 ∧ (∀ y ∈ l, y.1 ≠ q.1) ∧ puts q l = l.take (pos q.1 l) ++ q :: l.drop (pos q.1 l))) := by
  have e := srt_parts (k := q.1) s
  have h1 := srt_one (k := q.1) s
  generalize hM : l.filter (fun x => decide (x.1 = q.1)) = M at e h1
  have hM' : ∀ x ∈ M, x.1 = q.1 := fun x hx => by rw [← hM] at hx; simpa using (List.mem_filter.1 hx).2
  have hL : ∀ x ∈ les q.1 l, x.1 < q.1 := fun x hx => (mem_les.1 hx).2
  have hR : ∀ x ∈ mor q.1 l, q.1 < x.1 := fun x hx => (mem_mor.1 hx).2
  have hp : pos q.1 l = (les q.1 l).length := rfl
  have hP : puts q l = les q.1 l ++ q :: mor q.1 l := rfl
  generalize les q.1 l = A at *
  generalize mor q.1 l = C at *
  refine ⟨fun j x hx => ?_, ?_⟩
  · rw [hp]
    rw [e, List.append_assoc] at hx
    by_cases hj : j < A.length
    · rw [List.getElem?_append_left hj] at hx
      exact ⟨fun _ => hL x (List.mem_of_getElem? hx), fun _ => hj⟩
    · rw [List.getElem?_append_right (by omega)] at hx
      have := List.mem_of_getElem? hx
      rcases List.mem_append.1 this with h | h
      · have := hM' x h; exact ⟨fun h => absurd h hj, fun h => by omega⟩
      · have := hR x h; exact ⟨fun h => absurd h hj, fun h => by omega⟩
  · rw [hp, hP]
    rcases M with _ | ⟨m, M⟩
    · rw [List.append_nil] at e
      rcases C with _ | ⟨c, C⟩
      · left
        rw [List.append_nil] at e
        subst e
        exact ⟨rfl, hL, rfl⟩
      · right; right
        refine ⟨c, ?_, hR c (List.mem_cons_self ..), ?_, ?_⟩
        · rw [e]; simp
        · intro y hy
          rw [e] at hy
          rcases List.mem_append.1 hy with h | h
          · have := hL y h; omega
          · have := hR y h; omega
        · rw [e]; simp
    · right; left
      have : M = [] := by
        rw [List.length_cons] at h1
        exact List.length_eq_zero_iff.1 (by omega)
      subst this
      refine ⟨m, ?_, hM' m (List.mem_cons_self ..), ?_, ?_⟩
      · rw [e]; simp
      · rw [e]; simp
      · rw [e]; simp
theorem puts_len {q : KV} {l : List KV} (s : Srt l) : (puts q l).length = l.length + (if ∃ y ∈ l, y.1 = q.1 then 0 else 1) := by
  rcases (pos_cases (q := q) s).2 with ⟨_, h, e⟩ | ⟨x, h, h', hm, e⟩ | ⟨x, h, h', h2, e⟩
  · rw [e, if_neg]
    · simp
    · rintro ⟨y, hy, e⟩; have := h y hy; omega
  · rw [e, if_pos ⟨x, hm, h'⟩]; simp
  · rw [e, if_neg]
    · have := (List.getElem?_eq_some_iff.1 h).1
      simp; omega
    · rintro ⟨y, hy, e⟩; exact h2 y hy e

/-! ## Bounds -/
def geB (lo : Option Int) (k : Int) : Prop := ∀ x, lo = some x → x ≤ k
def gtB (lo : Option Int) (k : Int) : Prop := ∀ x, lo = some x → x < k
def ltB (hi : Option Int) (k : Int) : Prop := ∀ x, hi = some x → k < x
theorem gtB.ge {lo : Option Int} {k : Int} (h : gtB lo k) : geB lo k := fun x hx => Int.le_of_lt (h x hx)
theorem geB_some {x k : Int} : geB (some x) k ↔ x ≤ k := ⟨fun h => h x rfl, fun h y e => by cases e; exact h⟩
theorem gtB_some {x k : Int} : gtB (some x) k ↔ x < k := ⟨fun h => h x rfl, fun h y e => by cases e; exact h⟩
theorem ltB_some {x k : Int} : ltB (some x) k ↔ k < x := ⟨fun h => h x rfl, fun h y e => by cases e; exact h⟩
theorem geB_none (k : Int) : geB none k := fun _ h => by cases h
theorem ltB_none (k : Int) : ltB none k := fun _ h => by cases h
/-- Nodes and the keys between them. -/
def Ch {α : Type} (I : Option Int → Option Int → α → Prop) : Option Int → Option Int → List KV → List α → Prop
  | lo, hi, [], [c] => I lo hi c
  | lo, hi, k :: ks, c :: cs => gtB lo k.1 ∧ ltB hi k.1 ∧ I lo (some k.1) c ∧ Ch I (some k.1) hi ks cs
  | _, _, _, _ => False
section
variable {α : Type} {I : Option Int → Option Int → α → Prop}
theorem Ch.len : ∀ {ks : List KV} {cs : List α} {lo hi : Option Int}, Ch I lo hi ks cs → cs.length = ks.length + 1
  | [], [c], _, _, _ => rfl
  | [], [], _, _, h => h.elim
  | [], _ :: _ :: _, _, _, h => h.elim
  | k :: ks, [], _, _, h => h.elim
  | k :: ks, c :: cs, _, _, h => by have := Ch.len h.2.2.2; simp [this]
theorem Ch.one {lo hi : Option Int} {k : KV} {a b : α} (h1 : gtB lo k.1) (h2 : ltB hi k.1) (ha : I lo (some k.1) a) (hb : I (some k.1) hi b) : Ch I lo hi [k] [a, b] := ⟨h1, h2, ha, hb⟩
theorem Ch.keys : ∀ {ks : List KV} {cs : List α} {lo hi : Option Int}, Ch I lo hi ks cs → Srt ks ∧ ∀ k ∈ ks, gtB lo k.1 ∧ ltB hi k.1
  | [], [c], _, _, _ => ⟨List.Pairwise.nil, fun _ h => by cases h⟩
  | [], [], _, _, h => h.elim
  | [], _ :: _ :: _, _, _, h => h.elim
  | k :: ks, [], _, _, h => h.elim
  | k :: ks, c :: cs, lo, hi, ⟨h1, h2, _, h⟩ => by
    obtain ⟨s, a⟩ := Ch.keys h
    refine ⟨List.pairwise_cons.2 ⟨fun x hx => gtB_some.1 (a x hx).1, s⟩, fun x hx => ?_⟩
    rcases List.mem_cons.1 hx with rfl | hx
    · exact ⟨h1, h2⟩
    · have := a x hx
      exact ⟨fun y hy => by have := h1 y hy; have := gtB_some.1 (a x hx).1; omega, (a x hx).2⟩
theorem Ch.els {E : α → List KV} (hE : ∀ l h a, I l h a → ∀ x ∈ E a, geB l x.1 ∧ ltB h x.1) : ∀ {ks : List KV} {cs : List α} {lo hi : Option Int}, Ch I lo hi ks cs → ∀ c ∈ cs, ∀ x ∈ E c, geB lo x.1 ∧ ltB hi x.1
  | [], [c], _, _, h, d, hd, x, hx => by
    rw [List.mem_singleton] at hd; subst hd; exact hE _ _ _ h x hx
  | [], [], _, _, h, _, _, _, _ => h.elim
  | [], _ :: _ :: _, _, _, h, _, _, _, _ => h.elim
  | k :: ks, [], _, _, h, _, _, _, _ => h.elim
  | k :: ks, c :: cs, lo, hi, ⟨h1, h2, h3, h⟩, d, hd, x, hx => by
    rcases List.mem_cons.1 hd with rfl | hd
    · have := hE _ _ _ h3 x hx
      exact ⟨this.1, fun y hy => by have := h2 y hy; have := ltB_some.1 (hE _ _ _ h3 x hx).2; omega⟩
    · have := Ch.els hE h d hd x hx
      exact ⟨fun y hy => by have := h1 y hy; have := geB_some.1 (Ch.els hE h d hd x hx).1; omega, this.2⟩
/-- Other nodes with the same bounds. -/
theorem Ch.congr : ∀ {ks : List KV} {cs cs' : List α} {lo hi : Option Int}, Ch I lo hi ks cs → cs'.length = cs.length → (∀ (i : Nat) (a b : α), cs[i]? = some a → cs'[i]? = some b → ∀ l h, I l h a → I l h b) → Ch I lo hi ks cs'
  | [], [c], [c'], lo, hi, h, _, e => e 0 c c' rfl rfl _ _ h
  | [], [c], [], _, _, _, h, _ => by cases h
  | [], [c], _ :: _ :: _, _, _, _, h, _ => by cases h
  | [], [], _, _, _, h, _, _ => h.elim
  | [], _ :: _ :: _, _, _, _, h, _, _ => h.elim
  | k :: ks, [], _, _, _, h, _, _ => h.elim
  | k :: ks, c :: cs, [], _, _, _, h, _ => by cases h
  | k :: ks, c :: cs, c' :: cs', lo, hi, ⟨h1, h2, h3, h⟩, hl, e =>
    ⟨h1, h2, e 0 c c' rfl rfl _ _ h3, Ch.congr h (by simpa using hl) fun i a b ha hb => e (i + 1) a b (by simpa using ha) (by simpa using hb)⟩
/-- The node to which a key leads. -/
theorem Ch.at {k : Int} {E : α → List KV} (hE : ∀ l h a, I l h a → ∀ x ∈ E a, geB l x.1 ∧ ltB h x.1) : ∀ {ks : List KV} {cs : List α} {lo hi : Option Int}, Ch I lo hi ks cs → geB lo k → ltB hi k →
    ∃ A c B lo' hi', cs = A ++ c :: B ∧ A.length = (ks.filter fun x => decide (x.1 ≤ k)).length ∧ I lo' hi' c ∧ geB lo' k ∧ ltB hi' k ∧
      (∀ a ∈ A, ∀ x ∈ E a, x.1 < k) ∧ (∀ b ∈ B, ∀ x ∈ E b, k < x.1) ∧
      (∀ c', I lo' hi' c' → Ch I lo hi ks (A ++ c' :: B)) ∧
      (∀ l r (m : KV), gtB lo' m.1 → ltB hi' m.1 → I lo' (some m.1) l → I (some m.1) hi' r → Ch I lo hi (ks.take A.length ++ m :: ks.drop A.length) (A ++ l :: r :: B)) ∧
      (∀ m, gtB lo' m → ltB hi' m → pos m ks = A.length) ∧
      (∀ m, geB lo' m → geB lo m) ∧ (∀ m, gtB lo' m → gtB lo m) ∧ (∀ m, ltB hi' m → ltB hi m)
  | [], [c], lo, hi, h, h1, h2 => ⟨[], c, [], lo, hi, rfl, rfl, h, h1, h2, fun _ h => (by cases h), fun _ h => (by cases h), fun c' h => h, fun l r m a b c d => ⟨a, b, c, d⟩, fun _ _ _ => rfl, fun _ h => h, fun _ h => h, fun _ h => h⟩
  | [], [], _, _, h, _, _ => h.elim
  | [], _ :: _ :: _, _, _, h, _, _ => h.elim
  | q :: ks, [], _, _, h, _, _ => h.elim
  | q :: ks, c :: cs, lo, hi, ⟨h1, h2, h3, h4⟩, g1, g2 => by
    have hk := h4.keys
    by_cases hq : q.1 ≤ k
    · obtain ⟨A, d, B, lo', hi', rfl, hl, hc, b1, b2, hA, hB, k1, k2, k3, k4, k5, k6⟩ := Ch.at (k := k) hE h4 (geB_some.2 hq) g2
      refine ⟨c :: A, d, B, lo', hi', rfl, ?_, hc, b1, b2, ?_, hB, fun c' hc' => ⟨h1, h2, h3, k1 c' hc'⟩, fun l r m a b e f => ⟨h1, h2, h3, ?_⟩, fun m m1 m2 => ?_, fun m hm y hy => ?_, fun m hm y hy => ?_, k6⟩
      · rw [List.filter_cons, if_pos (by simpa using hq)]; simp [hl]
      · intro a ha x hx
        rcases List.mem_cons.1 ha with rfl | ha
        · have := ltB_some.1 (hE _ _ _ h3 x hx).2; omega
        · exact hA a ha x hx
      · exact k2 l r m a b e f
      · have := k3 m m1 m2
        have := gtB_some.1 (k5 m m1)
        unfold pos les at *
        rw [List.filter_cons, if_pos (by simpa using this)]; simp [*]
      · have := h1 y hy; have := geB_some.1 (k4 m hm); omega
      · have := h1 y hy; have := gtB_some.1 (k5 m hm); omega
    · refine ⟨[], c, cs, lo, some q.1, rfl, ?_, h3, g1, ltB_some.2 (by omega), fun _ h => (by cases h), ?_, fun c' hc' => ⟨h1, h2, hc', h4⟩, fun l r m a b e f => ⟨a, fun y hy => ?_, e, ⟨gtB_some.2 (ltB_some.1 b), h2, f, h4⟩⟩, fun m m1 m2 => ?_, fun _ h => h, fun _ h => h, fun m hm y hy => ?_⟩
      · have : (ks.filter fun x => decide (x.1 ≤ k)) = [] := List.filter_eq_nil_iff.2 fun x hx => by
          have := gtB_some.1 (hk.2 x hx).1; simp; omega
        rw [List.filter_cons, if_neg (by simpa using hq), this]; rfl
      · intro b hb x hx
        have := (h4.els hE b hb x hx).1
        have := geB_some.1 this; omega
      · have := h2 y hy; have := ltB_some.1 b; omega
      · have := ltB_some.1 m2
        have : (ks.filter fun x => decide (x.1 < m)) = [] := List.filter_eq_nil_iff.2 fun x hx => by
          have := gtB_some.1 (hk.2 x hx).1; simp; omega
        unfold pos les
        rw [List.filter_cons, if_neg (by simp; omega), this]; rfl
      · have := h2 y hy; have := ltB_some.1 hm; omega
/-- Nodes and keys in two parts. -/
theorem Ch.split {m : KV} {K2 : List KV} {C2 : List α} : ∀ {K1 : List KV} {C1 : List α} {lo hi : Option Int}, Ch I lo hi (K1 ++ m :: K2) (C1 ++ C2) → C1.length = K1.length + 1 →
    Ch I lo (some m.1) K1 C1 ∧ Ch I (some m.1) hi K2 C2 ∧ gtB lo m.1 ∧ ltB hi m.1
  | [], [c], lo, hi, ⟨h1, h2, h3, h4⟩, _ => ⟨h3, h4, h1, h2⟩
  | [], [], _, _, _, h => by cases h
  | [], _ :: _ :: _, _, _, _, h => by simp at h
  | k :: K1, [], _, _, _, h => by simp at h
  | k :: K1, c :: C1, lo, hi, ⟨h1, h2, h3, h4⟩, h => by
    obtain ⟨g1, g2, g3, g4⟩ := Ch.split (K1 := K1) (C1 := C1) h4 (by simpa using h)
    have g3 := gtB_some.1 g3
    exact ⟨⟨h1, ltB_some.2 g3, h3, g1⟩, g2, fun y hy => by have := h1 y hy; omega, g4⟩
theorem Ch.srt {E : α → List KV} (hE : ∀ l h a, I l h a → ∀ x ∈ E a, geB l x.1 ∧ ltB h x.1) (hS : ∀ l h a, I l h a → Srt (E a)) : ∀ {ks : List KV} {cs : List α} {lo hi : Option Int}, Ch I lo hi ks cs → Srt (cs.flatMap E)
  | [], [c], _, _, h => by simpa using hS _ _ _ h
  | [], [], _, _, h => h.elim
  | [], _ :: _ :: _, _, _, h => h.elim
  | k :: ks, [], _, _, h => h.elim
  | k :: ks, c :: cs, lo, hi, ⟨h1, h2, h3, h⟩ => by
    rw [List.flatMap_cons]
    refine List.pairwise_append.2 ⟨hS _ _ _ h3, Ch.srt hE hS h, fun a ha b hb => ?_⟩
    obtain ⟨d, hd, hb⟩ := List.mem_flatMap.1 hb
    have := ltB_some.1 (hE _ _ _ h3 a ha).2
    have := geB_some.1 (h.els hE d hd b hb).1
    omega
end

/-! ## Trees -/
structure Lf where
  b : Nat
  q : Nat
  p : Option Nat
  ks : List KV
structure Nd where
  b : Nat
  q : Nat
  r : Nat
  ks : List KV
def Tr : Nat → Type
  | 0 => Lf
  | n + 1 => Nd × List (Tr n)
def root : (n : Nat) → Tr n → Nat
  | 0, l => Lf.b l
  | _ + 1, t => t.1.b
def nk : (n : Nat) → Tr n → Nat
  | 0, l => (Lf.ks l).length
  | _ + 1, t => t.1.ks.length
def bks : (n : Nat) → Tr n → List Nat
  | 0, l => [Lf.b l, Lf.q l]
  | n + 1, t => t.1.b :: t.1.q :: t.1.r :: t.2.flatMap (bks n)
def lfs : (n : Nat) → Tr n → List Lf
  | 0, l => [l]
  | n + 1, t => t.2.flatMap (lfs n)
def els (n : Nat) (t : Tr n) : List KV := (lfs n t).flatMap Lf.ks
theorem els_succ (n : Nat) (t : Tr (n + 1)) : els (n + 1) t = t.2.flatMap (els n) := by
  show (t.2.flatMap (lfs n)).flatMap Lf.ks = _
  rw [List.flatMap_assoc]; rfl
theorem leaf_one (l : Lf) : ([l] : List Lf).flatMap Lf.ks = l.ks := by simp
theorem els_zero (l : Tr 0) : els 0 l = Lf.ks l := leaf_one l
def In : (n : Nat) → Option Int → Option Int → Tr n → Prop
  | 0, lo, hi, l => Srt (Lf.ks l) ∧ ∀ x ∈ Lf.ks l, geB lo x.1 ∧ ltB hi x.1
  | n + 1, lo, hi, t => Ch (In n) lo hi t.1.ks t.2
theorem In.els : ∀ {n : Nat} {lo hi : Option Int} {t : Tr n}, In n lo hi t → ∀ x ∈ els n t, geB lo x.1 ∧ ltB hi x.1
  | 0, _, _, t, h, x, hx => by rw [els_zero] at hx; exact h.2 x hx
  | n + 1, _, _, t, h, x, hx => by
    rw [els_succ] at hx
    obtain ⟨c, hc, hx⟩ := List.mem_flatMap.1 hx
    exact Ch.els (fun l h a ha => In.els ha) h c hc x hx
theorem In.srt : ∀ {n : Nat} {lo hi : Option Int} {t : Tr n}, In n lo hi t → Srt (Go.Proofs.Ytofnapddoiodkaa.E.els n t)
  | 0, _, _, t, h => by rw [els_zero]; exact h.1
  | n + 1, _, _, t, h => by
    rw [els_succ]
    exact Ch.srt (fun l h a ha => In.els ha) (fun l h a ha => In.srt ha) h
def Ne (l : List Lf) : Prop := ∀ x ∈ l, x.ks ≠ []
def Sm (S : Nat) : (n : Nat) → Tr n → Prop
  | 0, l => (Lf.ks l).length < S
  | n + 1, t => t.1.ks.length < S ∧ ∀ c ∈ t.2, Sm S n c
/-- The root may be full. -/
def Sm1 (S : Nat) : (n : Nat) → Tr n → Prop
  | 0, l => (Lf.ks l).length ≤ S
  | n + 1, t => t.1.ks.length ≤ S ∧ ∀ c ∈ t.2, Sm S n c
theorem Sm1.sm {S : Nat} : ∀ {n : Nat} {t : Tr n}, Sm1 S n t → nk n t < S → Sm S n t
  | 0, _, _, h => h
  | n + 1, _, h, h' => ⟨h', h.2⟩
theorem Sm.sm1 {S : Nat} : ∀ {n : Nat} {t : Tr n}, Sm S n t → Sm1 S n t
  | 0, _, h => Nat.le_of_lt h
  | n + 1, _, h => ⟨Nat.le_of_lt h.1, h.2⟩
theorem sm_mono {S : Nat} : ∀ {n : Nat} {t : Tr n}, Sm S n t → Sm (S + 1) n t
  | 0, _, h => Nat.lt_succ_of_lt h
  | n + 1, _, h => ⟨Nat.lt_succ_of_lt h.1, fun c hc => sm_mono (h.2 c hc)⟩
theorem sm1_mono {S : Nat} : ∀ {n : Nat} {t : Tr n}, Sm1 S n t → Sm1 (S + 1) n t
  | 0, _, h => Nat.le_succ_of_le h
  | n + 1, _, h => ⟨Nat.le_succ_of_le h.1, fun c hc => sm_mono (h.2 c hc)⟩
theorem Sm1.nk {S : Nat} : ∀ {n : Nat} {t : Tr n}, Sm1 S n t → nk n t ≤ S
  | 0, _, h => h
  | n + 1, _, h => h.1
/-- Leaves point to later ones alone. -/
def Fw (B : List Nat) : List Lf → Prop
  | [] => True
  | l :: r => (∀ x, l.p = some x → x ∈ r.map Lf.b ++ B) ∧ Fw B r
theorem Fw.app {B : List Nat} : ∀ {l r : List Lf}, Fw B (l ++ r) ↔ Fw (r.map Lf.b ++ B) l ∧ Fw B r
  | [], r => ⟨fun h => ⟨trivial, h⟩, fun h => h.2⟩
  | a :: l, r => by
    simp only [List.cons_append, Fw, Fw.app (l := l) (r := r), List.map_append, List.append_assoc]
    exact ⟨fun ⟨a, b, c⟩ => ⟨⟨a, b⟩, c⟩, fun ⟨⟨a, b⟩, c⟩ => ⟨a, b, c⟩⟩
theorem Fw.mono {B B' : List Nat} (hB : ∀ x ∈ B, x ∈ B') : ∀ {l : List Lf}, Fw B l → Fw B' l
  | [], _ => trivial
  | a :: l, ⟨h1, h2⟩ => ⟨fun x hx => by
      rcases List.mem_append.1 (h1 x hx) with h | h
      · exact List.mem_append_left _ h
      · exact List.mem_append_right _ (hB x h), Fw.mono hB h2⟩
/-- What may take the place of leaves within others. -/
def Wk (l l' : List Lf) : Prop := (∀ B, Fw B l → Fw B l') ∧ ∀ x ∈ l.map Lf.b, x ∈ l'.map Lf.b
theorem Wk.refl (l : List Lf) : Wk l l := ⟨fun _ h => h, fun _ h => h⟩
theorem Wk.trans {a b c : List Lf} (h : Wk a b) (h' : Wk b c) : Wk a c := ⟨fun B x => h'.1 B (h.1 B x), fun x hx => h'.2 x (h.2 x hx)⟩
theorem Wk.mid {l l' : List Lf} (h : Wk l l') (A C : List Lf) : Wk (A ++ (l ++ C)) (A ++ (l' ++ C)) := by
  constructor
  · intro B hf
    rw [Fw.app, Fw.app] at hf ⊢
    refine ⟨hf.1.mono fun x hx => ?_, h.1 _ hf.2.1, hf.2.2⟩
    simp only [List.map_append, List.mem_append] at hx ⊢
    rcases hx with (hx | hx) | hx
    · exact .inl (.inl (h.2 x hx))
    · exact .inl (.inr hx)
    · exact .inr hx
  · intro x hx
    simp only [List.map_append, List.mem_append] at hx ⊢
    rcases hx with hx | hx | hx
    · exact .inl hx
    · exact .inr (.inl (h.2 x hx))
    · exact .inr (.inr hx)
/-- A leaf becomes two. -/
theorem Wk.two {l a b : Lf} (h1 : b.b = l.b) (h2 : b.p = l.p) (h3 : a.p = some l.b) : Wk [l] [a, b] := by
  constructor
  · intro B hf
    refine ⟨fun x hx => ?_, fun x hx => ?_, trivial⟩
    · rw [h3] at hx; cases hx; simp [h1]
    · rw [h2] at hx; exact hf.1 x hx
  · intro x hx
    simp at hx; subst hx; simp [h1]
/-- The leaf in front points to the first of what is behind. -/
theorem Wk.front {a a' c : Lf} {l : List Lf} (h1 : a'.b = a.b) (h2 : a'.p = some c.b) : Wk (a :: c :: l) (a' :: c :: l) := by
  constructor
  · intro B hf
    exact ⟨fun x hx => by rw [h2] at hx; cases hx; simp, hf.2⟩
  · intro x hx
    simpa [h1] using hx
end Go.Proofs.Ytofnapddoiodkaa.E
