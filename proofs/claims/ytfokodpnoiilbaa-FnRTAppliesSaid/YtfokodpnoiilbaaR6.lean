/-
  Range trees: an addition below a new child; at the last level.
-/
import Derived.Test.YtfokodpnoiilbaaR5
namespace Go.Proofs.Ytfokodpnoiilbaa.E
open Go
set_option linter.unusedSimpArgs false
set_option linter.unusedVariables false
set_option maxRecDepth 100000
set_option maxHeartbeats 8000000

section
variable {w : World} {base tb num dm pl pc B m i x c : Nat} {pp p' : Option Addr} {c' : Nat} {D D' : List Nat} {s s' : RSt} {e : Dtn} {r : Option Nat} {n : Rd}
/-- The state with a new child. -/
def upC (s : RSt) (x c : Nat) (n : Rd) (p' : Option Addr) (c' : Nat) (kids' : List Nat) : RSt := upR (upR s c n) x { s x with p := p', c := c', kids := kids' }
theorem upC_x : upC s x c n p' c' D x = { s x with p := p', c := c', kids := D } := upR_same _ _ _
theorem upC_c (h : c ≠ x) : upC s x c n p' c' D c = n := by unfold upC; rw [upR_ne h, upR_same]
theorem upC_ne {y : Nat} (h : y ≠ x) (h' : y ≠ c) : upC s x c n p' c' D y = s y := by unfold upC; rw [upR_ne h, upR_ne h']
theorem neD {y : Nat} (nD : c ∉ D) (nt : c ≠ tb) (h : y = tb ∨ y ∈ D) : y ≠ c := fun e => by
  rcases h with h | h
  · exact nt (e ▸ h)
  · exact nD (e ▸ h)
structure Frsh (tb x c : Nat) (D : List Nat) (s : RSt) (m : Nat) : Prop where
  nD : c ∉ D
  nt : c ≠ tb
  cx : c ≠ x
  old : ∀ y ∈ rch (m + 1) s x, y ∈ D
theorem Frsh.of (h : RM w base tb num dm pp pl pc D s) (hi : RIn tb B (m + 1) x D s) (nD : c ∉ D) (nt : c ≠ tb) : Frsh tb x c D s m :=
  ⟨nD, nt, (neD nD nt hi.hx).symm, rch_D _ h hi.hx⟩
/-- Lists of old children look as they did. -/
theorem Frsh.same (f : Frsh tb x c D s m) (hi : RIn tb B (m + 1) x D s) {K A : List Nat} (hA : ∀ a ∈ A, a ∈ (s x).kids) : lvl m (upC s x c n p' c' K) A = lvl m s A ∧ rcl m (upC s x c n p' c' K) A = rcl m s A :=
  lvl_congr fun y hy => by
    obtain ⟨a, ha, hy⟩ := List.mem_flatMap.1 hy
    have hyx : y ∈ rch (m + 1) s x := List.mem_flatMap.2 ⟨a, hA a ha, hy⟩
    exact upC_ne (fun e => (List.nodup_cons.1 hi.nd).1 (e ▸ hyx)) fun e => f.nD (e ▸ f.old y hyx)
theorem rch_nil {m : Nat} {s : RSt} (h : (s c).kids = []) : rch m s c = [] := by
  cases m with
  | zero => rfl
  | succ m =>
    show (s c).kids.flatMap _ = []
    rw [h]; rfl
/-- The new child: what is asked of it. -/
theorem RIn.fresh (h : RM w base tb num dm pp pl pc D s) (hi : RIn tb B (m + 1 + 1) x D s) (nD : c ∉ D) (nt : c ≠ tb) (hk : n.kids = []) {j : Nat} :
    RIn tb B (m + 1) c (c :: D) (upC s x c n p' c' ((s x).kids.take j ++ c :: (s x).kids.drop j)) := by
  have f := Frsh.of h hi nD nt
  have hc := upC_c (n := n) (p' := p') (c' := c') (D := (s x).kids.take j ++ c :: (s x).kids.drop j) (s := s) f.cx
  generalize hK : (s x).kids.take j ++ c :: (s x).kids.drop j = K at *
  have hkc : (upC s x c n p' c' K c).kids = [] := by rw [hc]; exact hk
  have hr : rch (m + 1) (upC s x c n p' c' K) c = [] := rch_nil hkc
  have hKl : K.length = (s x).kids.length + 1 := by rw [← hK]; simp; omega
  have len : ∀ b, (b = tb ∨ b ∈ c :: D) → (upC s x c n p' c' K b).kids.length ≤ B + 1 := fun b hb => by
    by_cases e1 : b = x
    · rw [e1, upC_x]
      show K.length ≤ _
      have := hi.b2 x List.mem_cons_self
      omega
    · by_cases e2 : b = c
      · rw [e2, hkc]; exact Nat.zero_le _
      · rw [upC_ne e1 e2]
        refine hi.b1 b (hb.imp id fun hb => ?_)
        rcases List.mem_cons.1 hb with h | h
        · exact absurd h e2
        · exact h
  refine ⟨.inr List.mem_cons_self, ?_, ?_, len, fun b hb => ?_⟩
  · rw [hr]; simp
  · have e1 : absN (m + 1) (upC s x c n p' c' K) c = ([] : List (Int × ON (Option Dtn) m)) := by
      show (upC s x c n p' c' K c).kids.map _ = _
      rw [hkc]; rfl
    rw [e1]
    exact ⟨List.Pairwise.nil, fun p hp => by cases hp⟩
  · rw [hr] at hb
    have : b = c := by simpa using hb
    rw [this, hkc]; exact Nat.zero_le _
/-- From the child, which is new, to its node. -/
theorem RPost.fresh (h : RM w base tb num dm pp pl pc D s) (hi : RIn tb B (m + 1 + 1) x D s) (nD : c ∉ D) (nt : c ≠ tb) (hk : n.kids = []) (hn : n.v = plI e.pos i)
    (hno : ∀ old, (s x).kids[lbd (plI e.pos i) (keysR s x)]? = some old → (s old).v ≠ plI e.pos i)
    (p : RPost tb B (m + 1) (i + 1) e c (c :: D) (upC s x c n p' c' ((s x).kids.take (lbd (plI e.pos i) (keysR s x)) ++ c :: (s x).kids.drop (lbd (plI e.pos i) (keysR s x)))) D' s' r) :
    RPost tb B (m + 1 + 1) i e x D s D' s' r := by
  have f := Frsh.of h hi nD nt
  generalize hjj : lbd (plI e.pos i) (keysR s x) = j at *
  have hc := upC_c (n := n) (p' := p') (c' := c') (D := (s x).kids.take j ++ c :: (s x).kids.drop j) (s := s) f.cx
  have hxx := upC_x (n := n) (p' := p') (c' := c') (c := c) (x := x) (D := (s x).kids.take j ++ c :: (s x).kids.drop j) (s := s)
  obtain ⟨sA1, sA2⟩ := f.same hi (n := n) (p' := p') (c' := c') (K := (s x).kids.take j ++ c :: (s x).kids.drop j) (A := (s x).kids.take j) fun a ha => List.mem_of_mem_take ha
  obtain ⟨sB1, sB2⟩ := f.same hi (n := n) (p' := p') (c' := c') (K := (s x).kids.take j ++ c :: (s x).kids.drop j) (A := (s x).kids.drop j) fun a ha => List.mem_of_mem_drop ha
  generalize hs1 : upC s x c n p' c' ((s x).kids.take j ++ c :: (s x).kids.drop j) = s1 at *
  have hkc : (s1 c).kids = [] := by rw [hc]; exact hk
  have hrc : rch (m + 1) s1 c = [] := rch_nil hkc
  have hkx : (s1 x).kids = (s x).kids.take j ++ c :: (s x).kids.drop j := by rw [hxx]
  have hr0 : rch (m + 1 + 1) s x = rcl (m + 1) s ((s x).kids.take j) ++ ([] ++ rcl (m + 1) s ((s x).kids.drop j)) := by
    show rcl (m + 1) s (s x).kids = _
    rw [List.nil_append, ← rcl_append, List.take_append_drop]
  have hr1 : rch (m + 1 + 1) s1 x = rcl (m + 1) s ((s x).kids.take j) ++ ([c] ++ rcl (m + 1) s ((s x).kids.drop j)) := by
    show rcl (m + 1) s1 (s1 x).kids = _
    rw [hkx, rcl_append, rcl_cons, hrc, sA2, sB2]
  have hnc : c ∉ x :: rch (m + 1 + 1) s x := fun hc => by
    rcases List.mem_cons.1 hc with h | h
    · exact f.cx h
    · exact nD (f.old c h)
  have nd1 : (x :: rch (m + 1 + 1) s1 x).Nodup := by
    rw [hr1]
    have h0 := hi.nd
    rw [hr0] at h0 hnc
    exact nodup_mid h0 (by simp) fun y hy => .inr (by rw [List.mem_singleton.1 hy]; exact hnc)
  have mem1 : ∀ y, y ∈ rch (m + 1 + 1) s1 x → y = c ∨ y ∈ rch (m + 1 + 1) s x := fun y hy => by
    rw [hr1] at hy; rw [hr0]
    rcases List.mem_append.1 hy with hy | hy
    · exact .inr (List.mem_append_left _ hy)
    · rcases List.mem_append.1 hy with hy | hy
      · exact .inl (List.mem_singleton.1 hy)
      · exact .inr (List.mem_append_right _ (List.mem_append_right _ hy))
  have hD : ∀ y ∈ x :: rch (m + 1 + 1) s1 x, y = tb ∨ y ∈ c :: D := fun y hy => by
    rcases List.mem_cons.1 hy with rfl | hy
    · exact hi.hx.imp id fun h => List.mem_cons_of_mem _ h
    · rcases mem1 y hy with rfl | hy
      · exact .inr List.mem_cons_self
      · exact .inr (List.mem_cons_of_mem _ (f.old y hy))
  obtain ⟨c1, c2, c3, c4⟩ := child (s' := s') hkx nd1 (fun y hy h1 h2 => p.out y (hD y hy) h1 h2) p.v p.nd fun y hy => (p.rc y hy).imp id fun h hy => (hD y hy).elim h.2 h.1
  have e0 : absN (m + 1) s1 c = ([] : List (Int × ON (Option Dtn) m)) := by
    show (s1 c).kids.map _ = _
    rw [hkc]; rfl
  have hs : (lvl (m + 1) s (s x).kids).Pairwise (fun p q => p.1 < q.1) := hi.sr.1
  have hlb : lbd (plI e.pos i) ((lvl (m + 1) s (s x).kids).map Prod.fst) = j := by rw [lvl_fst]; exact hjj
  have key : ∀ (f : ON (Option Dtn) (m + 1) → ON (Option Dtn) (m + 1)) x0, lkp (plI e.pos i) (lvl (m + 1) s (s x).kids) = none ∧ insL (plI e.pos i) f x0 (lvl (m + 1) s (s x).kids) = (lvl (m + 1) s (s x).kids).take j ++ (plI e.pos i, x0) :: (lvl (m + 1) s (s x).kids).drop j := fun f x0 => by
    have := (ins_at (f := f) (x0 := x0) hs (v := plI e.pos i)).2 fun y hy => by
      rw [hlb] at hy
      unfold lvl at hy
      rw [List.getElem?_map] at hy
      obtain ⟨o, ho, he⟩ := Option.map_eq_some_iff.1 hy
      injection he with he _
      exact hno o ho he
    rw [hlb] at this; exact this
  have hg : getON (m + 1 + 1) (absN (m + 1 + 1) s x) (kyD e (m + 1 + 1) i) = none := by
    show (lkp (plI e.pos i) (lvl (m + 1) s (s x).kids)).bind _ = _
    rw [(key id (newON (m + 1) [] (some e))).1]; rfl
  have hg1 : getON (m + 1) (absN (m + 1) s1 c) (kyD e (m + 1) (i + 1)) = none := by rw [e0]; rfl
  refine ⟨fun b hb => p.sub b (List.mem_cons_of_mem _ hb), fun y hy h1 h2 => ?_, by rw [c1, hxx], by rw [c1, hxx], ?_, c3, fun y hy => ?_, p.b1, fun _ => hg, fun o ho => ?_⟩
  · have hyc : y ≠ c := neD nD nt hy
    rw [p.out y (hy.imp id fun h => List.mem_cons_of_mem _ h) hyc (by rw [hrc]; exact List.not_mem_nil), ← hs1]
    exact upC_ne h1 hyc
  · rw [c2, p.ab, e0, hc, hn, sA1, sB1]
    show _ = insL (plI e.pos i) (fun x => addON (m + 1) x (kyD e (m + 1) (i + 1)) (some e)) (newON (m + 1) (kyD e (m + 1) (i + 1)) (some e)) (lvl (m + 1) s (s x).kids)
    rw [(key _ _).2]
    unfold lvl
    rw [List.map_take, List.map_drop]
    rfl
  · rcases c4 y hy with h1 | h1
    · rcases mem1 y h1 with rfl | h1
      · exact .inr ⟨nD, nt⟩
      · exact .inl h1
    · rcases p.rc y h1 with h2 | h2
      · rw [hrc] at h2; cases h2
      · exact .inr ⟨fun hy => h2.1 (List.mem_cons_of_mem _ hy), h2.2⟩
  · have := (p.r2 o ho).2
    rw [hg1] at this; cases this
/-- At the last level: a node is put into the list. -/
theorem RPost.put (h : RM w base tb num dm pp pl pc D s) (hi : RIn tb B (0 + 1) x D s) (nD : c ∉ D) (nt : c ≠ tb) (hk : n.kids = []) (hn : n.v = plI e.pos i) (he : n.e = some e)
    (hno : ∀ old, (s x).kids[lbd (plI e.pos i) (keysR s x)]? = some old → (s old).v ≠ plI e.pos i) :
    RPost tb B (0 + 1) i e x D s (c :: D) (upC s x c n p' c' ((s x).kids.take (lbd (plI e.pos i) (keysR s x)) ++ c :: (s x).kids.drop (lbd (plI e.pos i) (keysR s x)))) none := by
  have f := Frsh.of h hi nD nt
  generalize hjj : lbd (plI e.pos i) (keysR s x) = j at *
  have hc := upC_c (n := n) (p' := p') (c' := c') (D := (s x).kids.take j ++ c :: (s x).kids.drop j) (s := s) f.cx
  have hxx := upC_x (n := n) (p' := p') (c' := c') (c := c) (x := x) (D := (s x).kids.take j ++ c :: (s x).kids.drop j) (s := s)
  obtain ⟨sA1, sA2⟩ := f.same hi (n := n) (p' := p') (c' := c') (K := (s x).kids.take j ++ c :: (s x).kids.drop j) (A := (s x).kids.take j) fun a ha => List.mem_of_mem_take ha
  obtain ⟨sB1, sB2⟩ := f.same hi (n := n) (p' := p') (c' := c') (K := (s x).kids.take j ++ c :: (s x).kids.drop j) (A := (s x).kids.drop j) fun a ha => List.mem_of_mem_drop ha
  have hne : ∀ {y : Nat}, y ≠ x → y ≠ c → upC s x c n p' c' ((s x).kids.take j ++ c :: (s x).kids.drop j) y = s y := fun h h' => upC_ne h h'
  generalize hs1 : upC s x c n p' c' ((s x).kids.take j ++ c :: (s x).kids.drop j) = s1 at *
  have hkc : (s1 c).kids = [] := by rw [hc]; exact hk
  have hkx : (s1 x).kids = (s x).kids.take j ++ c :: (s x).kids.drop j := by rw [hxx]
  have hr0 : rch (0 + 1) s x = (s x).kids.take j ++ ([] ++ (s x).kids.drop j) := by
    show rcl 0 s (s x).kids = _
    rw [rcl0, List.nil_append, List.take_append_drop]
  have hr1 : rch (0 + 1) s1 x = (s x).kids.take j ++ ([c] ++ (s x).kids.drop j) := by
    show rcl 0 s1 (s1 x).kids = _
    rw [hkx, rcl0]; rfl
  have hnc : c ∉ x :: rch (0 + 1) s x := fun hc => by
    rcases List.mem_cons.1 hc with h | h
    · exact f.cx h
    · exact nD (f.old c h)
  have hs : (lvl 0 s (s x).kids).Pairwise (fun p q => p.1 < q.1) := hi.sr.1
  have hlb : lbd (plI e.pos i) ((lvl 0 s (s x).kids).map Prod.fst) = j := by rw [lvl_fst]; exact hjj
  have key : ∀ (f : ON (Option Dtn) 0 → ON (Option Dtn) 0) x0, lkp (plI e.pos i) (lvl 0 s (s x).kids) = none ∧ insL (plI e.pos i) f x0 (lvl 0 s (s x).kids) = (lvl 0 s (s x).kids).take j ++ (plI e.pos i, x0) :: (lvl 0 s (s x).kids).drop j := fun f x0 => by
    have := (ins_at (f := f) (x0 := x0) hs (v := plI e.pos i)).2 fun y hy => by
      rw [hlb] at hy
      unfold lvl at hy
      rw [List.getElem?_map] at hy
      obtain ⟨o, ho, he⟩ := Option.map_eq_some_iff.1 hy
      injection he with he _
      exact hno o ho he
    rw [hlb] at this; exact this
  refine ⟨fun b hb => List.mem_cons_of_mem _ hb, fun y hy h1 h2 => hne h1 (neD nD nt hy), by rw [hxx], by rw [hxx], ?_, ?_, fun y hy => ?_, fun b hb => ?_, fun _ => ?_, fun o ho => (by cases ho)⟩
  · show lvl 0 s1 (s1 x).kids = insL (plI e.pos i) (fun x => addON 0 x [] (some e)) (newON 0 [] (some e)) (lvl 0 s (s x).kids)
    rw [(key _ _).2, hkx, lvl_append, lvl_cons, sA1, sB1, hc, hn]
    have : absN 0 s1 c = some e := by show (s1 c).e = _; rw [hc, he]
    rw [this]
    unfold lvl
    rw [List.map_take, List.map_drop]
    rfl
  · rw [hr1]
    have h0 := hi.nd
    rw [hr0] at h0 hnc
    exact nodup_mid h0 (by simp) fun y hy => .inr (by rw [List.mem_singleton.1 hy]; exact hnc)
  · rw [hr1] at hy
    rw [hr0]
    rcases List.mem_append.1 hy with hy | hy
    · exact .inl (List.mem_append_left _ hy)
    · rcases List.mem_append.1 hy with hy | hy
      · rw [List.mem_singleton.1 hy]; exact .inr ⟨nD, nt⟩
      · exact .inl (List.mem_append_right _ (List.mem_append_right _ hy))
  · by_cases e1 : b = x
    · rw [e1, hkx]
      have := hi.b2 x List.mem_cons_self
      simp; omega
    · by_cases e2 : b = c
      · rw [e2, hkc]; exact Nat.zero_le _
      · rw [hne e1 e2]
        refine hi.b1 b (hb.imp id fun hb => ?_)
        rcases List.mem_cons.1 hb with h | h
        · exact absurd h e2
        · exact h
  · show (lkp (plI e.pos i) (lvl 0 s (s x).kids)).bind _ = _
    rw [(key id (some e)).1]; rfl
/-- At the last level: a node is put in another's place. -/
theorem RPost.set (h : RM w base tb num dm pp pl pc D s) (hi : RIn tb B (0 + 1) x D s) (nD : c ∉ D) (nt : c ≠ tb) (hk : n.kids = []) (hn : n.v = plI e.pos i) (he : n.e = some e) {old : Nat}
    (ho : (s x).kids[lbd (plI e.pos i) (keysR s x)]? = some old) (hv : (s old).v = plI e.pos i) :
    RPost tb B (0 + 1) i e x D s (c :: D) (upC s x c n p' c' ((s x).kids.set (lbd (plI e.pos i) (keysR s x)) c)) (some old) := by
  have f := Frsh.of h hi nD nt
  obtain ⟨hjl, hjc⟩ := List.getElem?_eq_some_iff.1 ho
  generalize hjj : lbd (plI e.pos i) (keysR s x) = j at *
  have ek : (s x).kids.set j c = (s x).kids.take j ++ c :: (s x).kids.drop (j + 1) := List.set_eq_take_append_cons_drop.trans (if_pos hjl)
  have hko : (s x).kids = (s x).kids.take j ++ old :: (s x).kids.drop (j + 1) := by
    rw [← hjc, List.getElem_cons_drop, List.take_append_drop]
  rw [ek]
  have hc := upC_c (n := n) (p' := p') (c' := c') (D := (s x).kids.take j ++ c :: (s x).kids.drop (j + 1)) (s := s) f.cx
  have hxx := upC_x (n := n) (p' := p') (c' := c') (c := c) (x := x) (D := (s x).kids.take j ++ c :: (s x).kids.drop (j + 1)) (s := s)
  obtain ⟨sA1, sA2⟩ := f.same hi (n := n) (p' := p') (c' := c') (K := (s x).kids.take j ++ c :: (s x).kids.drop (j + 1)) (A := (s x).kids.take j) fun a ha => List.mem_of_mem_take ha
  obtain ⟨sB1, sB2⟩ := f.same hi (n := n) (p' := p') (c' := c') (K := (s x).kids.take j ++ c :: (s x).kids.drop (j + 1)) (A := (s x).kids.drop (j + 1)) fun a ha => List.mem_of_mem_drop ha
  have hne : ∀ {y : Nat}, y ≠ x → y ≠ c → upC s x c n p' c' ((s x).kids.take j ++ c :: (s x).kids.drop (j + 1)) y = s y := fun h h' => upC_ne h h'
  generalize hs1 : upC s x c n p' c' ((s x).kids.take j ++ c :: (s x).kids.drop (j + 1)) = s1 at *
  have hkc : (s1 c).kids = [] := by rw [hc]; exact hk
  have hkx : (s1 x).kids = (s x).kids.take j ++ c :: (s x).kids.drop (j + 1) := by rw [hxx]
  have hr0 : rch (0 + 1) s x = (s x).kids.take j ++ ([old] ++ (s x).kids.drop (j + 1)) := by
    show rcl 0 s (s x).kids = _
    rw [rcl0]; exact hko
  have hr1 : rch (0 + 1) s1 x = (s x).kids.take j ++ ([c] ++ (s x).kids.drop (j + 1)) := by
    show rcl 0 s1 (s1 x).kids = _
    rw [hkx, rcl0]; rfl
  have hnc : c ∉ x :: rch (0 + 1) s x := fun hc => by
    rcases List.mem_cons.1 hc with h | h
    · exact f.cx h
    · exact nD (f.old c h)
  have hom : old ∈ (s x).kids := List.mem_of_getElem? ho
  have hoD : old ∈ D := h.kd x hi.hx old hom
  have hor : old ∈ rch (0 + 1) s x := List.mem_flatMap.2 ⟨old, hom, List.mem_cons_self⟩
  have hox : old ≠ x := fun e => (List.nodup_cons.1 hi.nd).1 (e ▸ hor)
  have hs : (lvl 0 s (s x).kids).Pairwise (fun p q => p.1 < q.1) := hi.sr.1
  have hlb : lbd (plI e.pos i) ((lvl 0 s (s x).kids).map Prod.fst) = j := by rw [lvl_fst]; exact hjj
  have hL : (lvl 0 s (s x).kids)[j]? = some (plI e.pos i, absN 0 s old) := by
    unfold lvl; rw [List.getElem?_map, ho, ← hv]; rfl
  have key : ∀ (f : ON (Option Dtn) 0 → ON (Option Dtn) 0) x0, lkp (plI e.pos i) (lvl 0 s (s x).kids) = some (absN 0 s old) ∧ insL (plI e.pos i) f x0 (lvl 0 s (s x).kids) = (lvl 0 s (s x).kids).set j (plI e.pos i, f (absN 0 s old)) := fun f x0 => by
    have := (ins_at (f := f) (x0 := x0) hs (v := plI e.pos i)).1 (absN 0 s old) (by rw [hlb]; exact hL)
    rw [hlb] at this; exact this
  refine ⟨fun b hb => List.mem_cons_of_mem _ hb, fun y hy h1 h2 => hne h1 (neD nD nt hy), by rw [hxx], by rw [hxx], ?_, ?_, fun y hy => ?_, fun b hb => ?_, fun hr => (by cases hr), fun o ho' => ?_⟩
  · show lvl 0 s1 (s1 x).kids = insL (plI e.pos i) (fun x => addON 0 x [] (some e)) (newON 0 [] (some e)) (lvl 0 s (s x).kids)
    rw [(key _ _).2, hkx, lvl_append, lvl_cons, sA1, sB1, hc, hn]
    have : absN 0 s1 c = some e := by show (s1 c).e = _; rw [hc, he]
    rw [this]
    conv => rhs; rw [hko]
    rw [lvl_append, lvl_cons, List.set_append_right _ _ (by unfold lvl; simp; omega)]
    have : j - (lvl 0 s ((s x).kids.take j)).length = 0 := by unfold lvl; simp; omega
    rw [this]; rfl
  · rw [hr1]
    have h0 := hi.nd
    rw [hr0] at h0 hnc
    exact nodup_mid h0 (by simp) fun y hy => .inr (by rw [List.mem_singleton.1 hy]; exact hnc)
  · rw [hr1] at hy
    rw [hr0]
    rcases List.mem_append.1 hy with hy | hy
    · exact .inl (List.mem_append_left _ hy)
    · rcases List.mem_append.1 hy with hy | hy
      · rw [List.mem_singleton.1 hy]; exact .inr ⟨nD, nt⟩
      · exact .inl (List.mem_append_right _ (List.mem_append_right _ hy))
  · by_cases e1 : b = x
    · rw [e1, hkx]
      have := hi.b2 x List.mem_cons_self
      simp; omega
    · by_cases e2 : b = c
      · rw [e2, hkc]; exact Nat.zero_le _
      · rw [hne e1 e2]
        refine hi.b1 b (hb.imp id fun hb => ?_)
        rcases List.mem_cons.1 hb with h | h
        · exact absurd h e2
        · exact h
  · cases ho'
    refine ⟨List.mem_cons_of_mem _ hoD, ?_⟩
    show (lkp (plI e.pos i) (lvl 0 s (s x).kids)).bind _ = _
    rw [(key id (some e)).1, hne hox fun e => nD (e ▸ hoD)]; rfl
end
end Go.Proofs.Ytfokodpnoiilbaa.E
