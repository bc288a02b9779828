/-
  Interval trees: plain intervals, sorted; trees that hold them; Add, Delete.
-/
import Derived.Test.YthapmkjmfkmnoaaAtQ
namespace Go.Proofs.Ythapmkjmfkmnoaa.E
open Go
set_option linter.unusedSimpArgs false
set_option linter.unusedVariables false
set_option maxRecDepth 100000
set_option maxHeartbeats 8000000

/-! ## Plain -/
structure Sp where
  lows : List Int
  highs : List Int
  id : Nat
def Sp.lo (x : Sp) : Int := plc x.lows 1
def Sp.hi (x : Sp) : Int := plc x.highs 1
def Spn.pl (x : Spn) : Sp := ⟨x.lows, x.highs, x.id⟩
def kls (x y : Sp) : Prop := x.lo < y.lo ∨ (x.lo = y.lo ∧ x.id < y.id)
instance (x y : Sp) : Decidable (kls x y) := by unfold kls; exact inferInstance
theorem kls_of {x y : Spn} : klt x y ↔ kls x.pl y.pl := Iff.rfl
def insS (x : Sp) : List Sp → List Sp
  | [] => [x]
  | y :: l => if kls x y then x :: y :: l else y :: insS x l
theorem insS_perm (x : Sp) : ∀ l, (insS x l).Perm (x :: l)
  | [] => .refl _
  | y :: l => by
    unfold insS; split
    · exact .refl _
    · exact ((insS_perm x l).cons y).trans (List.Perm.swap _ _ _)
theorem insS_sorted {x : Sp} : ∀ {l : List Sp}, l.Pairwise kls → (∀ y ∈ l, y.id ≠ x.id) → (insS x l).Pairwise kls
  | [], _, _ => List.pairwise_singleton _ _
  | y :: l, h, hi => by
    obtain ⟨h1, h2⟩ := List.pairwise_cons.1 h
    unfold insS; split
    · rename_i hk
      refine List.pairwise_cons.2 ⟨fun z hz => ?_, h⟩
      rcases List.mem_cons.1 hz with rfl | hz
      · exact hk
      · have := h1 z hz
        unfold kls at *; omega
    · rename_i hk
      refine List.pairwise_cons.2 ⟨fun z hz => ?_, insS_sorted h2 fun z hz => hi z (List.mem_cons_of_mem _ hz)⟩
      have hz := (insS_perm x l).mem_iff.1 hz
      rcases List.mem_cons.1 hz with rfl | hz
      · have := hi y List.mem_cons_self
        unfold kls at *; omega
      · exact h1 z hz
theorem kls_uniq : ∀ {a b : List Sp}, a.Pairwise kls → b.Pairwise kls → a.Perm b → a = b
  | [], b, _, _, p => (List.Perm.nil_eq p)
  | x :: a, [], _, _, p => by have := p.length_eq; simp at this
  | x :: a, y :: b, ha, hb, p => by
    obtain ⟨a1, a2⟩ := List.pairwise_cons.1 ha
    obtain ⟨b1, b2⟩ := List.pairwise_cons.1 hb
    have e : x = y := by
      rcases List.mem_cons.1 (p.mem_iff.1 List.mem_cons_self) with e | hx
      · exact e
      · rcases List.mem_cons.1 (p.mem_iff.2 List.mem_cons_self) with e | hy
        · exact e.symm
        · have h1 := a1 y hy
          have h2 := b1 x hx
          unfold kls at h1 h2; omega
    subst e
    rw [kls_uniq a2 b2 (List.Perm.cons_inv p)]
def insAll (l xs : List Sp) : List Sp := xs.foldl (fun l x => insS x l) l
theorem insAll_perm : ∀ (xs l : List Sp), (insAll l xs).Perm (l ++ xs)
  | [], l => by simp [insAll]
  | x :: xs, l => by
    have h1 : insAll l (x :: xs) = insAll (insS x l) xs := rfl
    rw [h1]
    refine (insAll_perm xs _).trans (((insS_perm x l).append_right xs).trans ?_)
    exact List.perm_middle.symm
theorem insAll_snoc (l xs : List Sp) (x : Sp) : insAll l (xs ++ [x]) = insS x (insAll l xs) := by unfold insAll; rw [List.foldl_append]; rfl
theorem insAll_sorted : ∀ {xs l : List Sp}, l.Pairwise kls → ((l ++ xs).map Sp.id).Nodup → (insAll l xs).Pairwise kls
  | [], l, h, _ => h
  | x :: xs, l, h, hn => by
    have h1 : insAll l (x :: xs) = insAll (insS x l) xs := rfl
    rw [h1]
    have p : ((insS x l ++ xs).map Sp.id).Perm ((l ++ x :: xs).map Sp.id) := (((insS_perm x l).append_right xs).trans List.perm_middle.symm).map _
    refine insAll_sorted (insS_sorted h fun y hy e => ?_) (p.nodup_iff.2 hn)
    rw [List.map_append, List.map_cons] at hn
    exact (List.nodup_append.1 hn).2.2 y.id (List.mem_map.2 ⟨y, hy, rfl⟩) x.id (by simp) e
def remS (x : Sp) (l : List Sp) : List Sp := l.filter fun y => decide (y.id ≠ x.id)
def remAll (l xs : List Sp) : List Sp := xs.foldl (fun l x => remS x l) l
theorem remAll_snoc (l xs : List Sp) (x : Sp) : remAll l (xs ++ [x]) = remS x (remAll l xs) := by unfold remAll; rw [List.foldl_append]; rfl
theorem remAll_eq : ∀ (xs l : List Sp), remAll l xs = l.filter fun y => decide (y.id ∉ xs.map Sp.id)
  | [], l => by
    have : (fun y : Sp => decide (y.id ∉ ([] : List Sp).map Sp.id)) = fun _ => true := by funext y; simp
    show l = _
    rw [this, List.filter_eq_self.2 fun _ _ => rfl]
  | x :: xs, l => by
    have h1 : remAll l (x :: xs) = remAll (remS x l) xs := rfl
    rw [h1, remAll_eq xs, remS, List.filter_filter]
    refine List.filter_congr fun y _ => ?_
    simp only [List.map_cons, List.mem_cons, not_or]
    by_cases e1 : y.id = x.id <;> by_cases e2 : y.id ∈ xs.map Sp.id <;> simp [e1, e2]
/-- One is taken out. -/
theorem rem_of_perm {l l' : List Sp} {z x : Sp} (hl : l.Pairwise kls) (hl' : l'.Pairwise kls) (hn : (l.map Sp.id).Nodup) (p : l.Perm (z :: l')) (e : z.id = x.id) : l' = remS x l := by
  have hn' : ((z :: l').map Sp.id).Nodup := (p.map _).nodup_iff.1 hn
  rw [List.map_cons, List.nodup_cons] at hn'
  refine kls_uniq hl' (hl.sublist List.filter_sublist) ?_
  have := (p.filter fun y => decide (y.id ≠ x.id)).symm
  rw [List.filter_cons, if_neg (by simp [e])] at this
  have e2 : l'.filter (fun y => decide (y.id ≠ x.id)) = l' := List.filter_eq_self.2 fun y hy => by
    simp only [decide_eq_true_eq]
    intro e3
    exact hn'.1 (by rw [e, ← e3]; exact List.mem_map.2 ⟨y, hy, rfl⟩)
  rw [e2] at this
  exact this
/-! ## Frames by types -/
def FrT (base : Nat) (ts : List TypeId) (w w' : World) : Prop := ∃ S, Fr S w w' ∧ Tys S w ts ∧ ∀ b, S b → base ≤ b
theorem FrT.of0 {base : Nat} {ts : List TypeId} {w w' : World} (f : Fr (fun _ => False) w w') : FrT base ts w w' := ⟨fun _ => False, f, fun _ _ _ h => h.elim, fun _ h => h.elim⟩
theorem FrT.refl (base : Nat) (ts : List TypeId) (w : World) : FrT base ts w w := FrT.of0 (Fr.refl _ _)
theorem FrT.trans {base : Nat} {ts : List TypeId} {w w' w'' : World} (h : FrT base ts w w') (h' : FrT base ts w' w'') : FrT base ts w w'' := by
  obtain ⟨S, f, T, B⟩ := h
  obtain ⟨S', f', T', B'⟩ := h'
  refine ⟨fun b => S b ∨ S' b, (f.mono fun b hb => .inl (.inl hb)).trans f' fun b hb => .inl (.inr hb), fun b u us hb hu => ?_, fun b hb => hb.elim (B b) (B' b)⟩
  by_cases hS : S b
  · exact T b u us hS hu
  · exact T' b u us (hb.resolve_left hS) (hu.fr f hS)
theorem FrT.size {base : Nat} {ts : List TypeId} {w w' : World} (h : FrT base ts w w') : w.heap.size ≤ w'.heap.size := by obtain ⟨S, f, _⟩ := h; exact f.size
theorem FrT.fr {base : Nat} {ts : List TypeId} {w w' : World} (h : FrT base ts w w') : Fr (fun b => base ≤ b) w w' := by
  obtain ⟨S, f, T, B⟩ := h
  exact f.mono fun b hb => .inl (B b hb)
theorem SpOk.frT {w w' : World} {base : Nat} {ts : List TypeId} {x : Spn} (h : SpOk w x) (f : FrT base ts w w') (ht : 2 ∉ ts) : SpOk w' x := by
  obtain ⟨S, f, T, B⟩ := f
  exact h.fr f fun b u us hb hu e => ht (e ▸ T b u us hb hu)
theorem own_not {w : World} {S : Nat → Prop} {e : TypeId} {p : Option Addr} {l c : Nat} {vs : List Value} {ts : List TypeId} (h : Own w e p l c vs) (hT : Tys S w ts) (he : e ∉ ts) : ∀ b, bl p b → ¬ S b := fun b hb hS => by
  obtain ⟨us, hu⟩ := h.blk hb
  exact he (hT b e us hS hu)
theorem Own.frT {w w' : World} {base : Nat} {ts : List TypeId} {e : TypeId} {p : Option Addr} {l c : Nat} {vs : List Value} (h : Own w e p l c vs) (f : FrT base ts w w') (ht : e ∉ ts) : Own w' e p l c vs := by
  obtain ⟨S, f, T, B⟩ := f
  exact h.fr f (own_not h T ht)
theorem blk_ty {w w' : World} {b t : Nat} {vs : List Value} {S : Nat → Prop} {ts : List TypeId} (h : Blk w b t vs) (f : Fr S w w') (hT : Tys S w ts) (ht : t ∉ ts) : Blk w' b t vs := h.fr f fun hs => ht (hT _ _ _ hs h)
theorem blk_frT {w w' : World} {base b t : Nat} {ts : List TypeId} {vs : List Value} (h : Blk w b t vs) (f : FrT base ts w w') (ht : t ∉ ts) : Blk w' b t vs := by
  obtain ⟨S, f, T, B⟩ := f
  exact blk_ty h f T ht
/-! ## A tree that holds intervals -/
def Tr1 (w : World) (base tb m : Nat) (P : CT → Prop) (M : List Sp) : Prop := ∃ D s T, AT w tb m D s T ∧ P T ∧ T.xs.map Spn.pl = M ∧ base ≤ tb ∧ ∀ b ∈ D, base ≤ b
abbrev TrB (w : World) (base tb m : Nat) (M : List Sp) : Prop := Tr1 w base tb m BndT M
abbrev TrF (w : World) (base tb m : Nat) (M : List Sp) : Prop := Tr1 w base tb m (fun _ => True) M
theorem AT.fr {w w' : World} {S : Nat → Prop} {ts : List TypeId} {tb m : Nat} {D : List Nat} {s : St} {T : CT} (h : AT w tb m D s T) (f : Fr S w w') (hT : Tys S w ts) (ht : 71 ∉ ts ∧ 74 ∉ ts ∧ 2 ∉ ts) : AT w' tb m D s T :=
  ⟨h.ms.fr f (fun b hb hs => ht.1 (hT _ _ _ hs (h.ms b hb).1)) (fun b u us hs hu e => ht.2.2 (e ▸ hT _ _ _ hs hu)), h.tr.fr f fun hs => ht.2.1 (hT _ _ _ hs h.tr), h.hD, h.rt, h.rd, h.rb, h.nd, h.so⟩
theorem Tr1.fr {w w' : World} {S : Nat → Prop} {ts : List TypeId} {base tb m : Nat} {P : CT → Prop} {M : List Sp} (h : Tr1 w base tb m P M) (f : Fr S w w') (hT : Tys S w ts) (ht : 71 ∉ ts ∧ 74 ∉ ts ∧ 2 ∉ ts) : Tr1 w' base tb m P M := by
  obtain ⟨D, s, T, h1, h2, h3, h4, h5⟩ := h
  exact ⟨D, s, T, h1.fr f hT ht, h2, h3, h4, h5⟩
theorem Tr1.fr0 {w w' : World} {base tb m : Nat} {P : CT → Prop} {M : List Sp} (h : Tr1 w base tb m P M) (f : Fr (fun _ => False) w w') : Tr1 w' base tb m P M := h.fr f (Tys.none w) (by decide)
theorem Tr1.frT {w w' : World} {base base' tb m : Nat} {ts : List TypeId} {P : CT → Prop} {M : List Sp} (h : Tr1 w base tb m P M) (f : FrT base' ts w w') (ht : 71 ∉ ts ∧ 74 ∉ ts ∧ 2 ∉ ts) : Tr1 w' base tb m P M := by
  obtain ⟨S, f, T, B⟩ := f
  exact h.fr f T ht
theorem AT.len {w : World} {tb m : Nat} {D : List Nat} {s : St} {T : CT} {M : List Sp} (h : T.xs.map Spn.pl = M) : T.nds.length = M.length := by rw [← h, List.length_map, xs_len]
theorem AT.sorted {w : World} {tb m : Nat} {D : List Nat} {s : St} {T : CT} (h : AT w tb m D s T) : (T.xs.map Spn.pl).Pairwise kls := by
  rw [List.pairwise_map]
  exact h.so
theorem Tr1.sorted {w : World} {base tb m : Nat} {P : CT → Prop} {M : List Sp} (h : Tr1 w base tb m P M) : M.Pairwise kls := by
  obtain ⟨D, s, T, h1, h2, h3, h4, h5⟩ := h
  rw [← h3]; exact h1.sorted
section
variable {w : World} {base tb m : Nat} {M : List Sp} {iv : Spn} {k : Value → W}
theorem tys_tree {w : World} {tb m : Nat} {D : List Nat} {s : St} {T : CT} (h : AT w tb m D s T) : Tys (fun b => b = tb ∨ b ∈ D) w [71, 74] := fun b u us hb hu => by
  rcases hb with rfl | hb
  · rw [(hu.unique h.tr).1]; decide
  · rw [(hu.unique (h.ms b hb).1).1]; decide
/-- add, by values. -/
theorem add1 (h : TrB w base tb m M) (sp : SpOk w iv) (hb : base ≤ w.heap.size) (hid : ∀ x ∈ M, x.id ≠ iv.id) (hn : M.length < 1000000) (hk : ∀ w', TrB w' base tb m (insS iv.pl M) → SpOk w' iv → FrT base [71, 74] w w' → k (.tuple #[]) w') : F40 k (ta tb) iv.v w := by
  obtain ⟨D, s, T, h1, h2, h3, h4, h5⟩ := h
  have hs := h1.sorted
  rw [h3] at hs
  refine F40_spec h1 h2 sp (fun x hx => hid x.pl (by rw [← h3]; exact List.mem_map.2 ⟨x, hx, rfl⟩)) (by rw [AT.len (w := w) (tb := tb) (m := m) (D := D) (s := s) h3]; exact hn) fun w' D' s' T' h1' h2' sp' pm f' dd => hk w' ⟨D', s', T', h1', h2', ?_, h4, fun b hb' => ?_⟩ sp' ⟨_, f', tys_tree h1, fun b hb' => ?_⟩
  · refine kls_uniq h1'.sorted (insS_sorted hs hid) ?_
    refine (pm.map Spn.pl).trans ?_
    rw [List.map_cons, h3]
    exact (insS_perm _ _).symm
  · rcases dd b hb' with h | h
    · exact h5 b h
    · omega
  · rcases hb' with rfl | hb'
    · exact h4
    · exact h5 b hb'
/-- delete, by values. -/
theorem del1 (h : TrF w base tb m M) (sp : SpOk w iv) (hb : base ≤ w.heap.size) (hm : iv.pl ∈ M) (hnd : (M.map Sp.id).Nodup) (hn : M.length < 1000000) (hk : ∀ w', TrF w' base tb m (remS iv.pl M) → SpOk w' iv → FrT base [71, 74] w w' → k (.tuple #[]) w') : F41 k (ta tb) iv.v w := by
  obtain ⟨D, s, T, h1, h2, h3, h4, h5⟩ := h
  have hs := h1.sorted
  rw [h3] at hs
  have hm' := hm
  rw [← h3] at hm'
  obtain ⟨z, hz, hze⟩ := List.mem_map.1 hm'
  have same : ∀ y ∈ T.xs, y.id = iv.id → y.lo = iv.lo := fun y hy e => by
    have hy' : y.pl ∈ M := by rw [← h3]; exact List.mem_map.2 ⟨y, hy, rfl⟩
    have : y.pl = iv.pl := by
      have inj : ∀ {l : List Sp}, (l.map Sp.id).Nodup → ∀ a ∈ l, ∀ b ∈ l, a.id = b.id → a = b := fun {l} => by
        induction l with
        | nil => intro _ a ha; cases ha
        | cons q l ih =>
          intro hn a ha b hb e
          rw [List.map_cons, List.nodup_cons] at hn
          rcases List.mem_cons.1 ha with h1 | h1
          · rcases List.mem_cons.1 hb with h2 | h2
            · rw [h1, h2]
            · exact absurd (List.mem_map.2 ⟨b, h2, by rw [← e, h1]⟩) hn.1
          · rcases List.mem_cons.1 hb with h2 | h2
            · exact absurd (List.mem_map.2 ⟨a, h1, by rw [e, h2]⟩) hn.1
            · exact ih hn.2 a h1 b h2 e
      exact inj hnd _ hy' _ hm e
    have := congrArg Sp.lo this
    exact this
  refine F41_spec h1 sp ⟨z, hz, congrArg Sp.id hze⟩ same (by rw [AT.len (w := w) (tb := tb) (m := m) (D := D) (s := s) h3]; exact hn) fun w' D' s' T' z' h1' sp' hzi pm f' dd => hk w' ⟨D', s', T', h1', trivial, ?_, h4, fun b hb' => ?_⟩ sp' ⟨_, f', tys_tree h1, fun b hb' => ?_⟩
  · refine rem_of_perm (z := z'.pl) hs h1'.sorted hnd ?_ hzi
    have := pm.map Spn.pl
    rw [List.map_cons, h3] at this
    exact this
  · rcases dd b hb' with h | h
    · exact h5 b h
    · omega
  · rcases hb' with rfl | hb'
    · exact h4
    · exact h5 b hb'
/-- Add. -/
theorem F34_spec {p : Option Addr} {c : Nat} {ys : List Spn} (h : TrB w base tb m M) (hb : base ≤ w.heap.size) (O : Own w 57 p ys.length c (ys.map Spn.v)) (hy : ∀ y ∈ ys, SpOk w y) (hnd : ((M ++ ys.map Spn.pl).map Sp.id).Nodup) (hn : M.length + ys.length < 1000000)
    (hk : ∀ w', TrB w' base tb m (insAll M (ys.map Spn.pl)) → FrT base [71, 74] w w' → k (.tuple #[]) w') : F34 k (ta tb) p ys.length c w := by
  unfold F34
  refine F34_L1_rule (I := fun t' p' l' c' n i w' => t' = ta tb ∧ p' = p ∧ l' = ys.length ∧ c' = c ∧ n = ((ys.length : Nat) : Int) ∧ ∃ t : Nat, i = ((t : Nat) : Int) ∧ t ≤ ys.length ∧ TrB w' base tb m (insAll M ((ys.take t).map Spn.pl)) ∧ FrT base [71, 74] w w')
    (μ := fun t' p' l' c' n i w' => ys.length - i.toNat) ?_ ⟨rfl, rfl, rfl, rfl, rfl, 0, rfl, Nat.zero_le _, h, FrT.refl _ _ _⟩
  rintro _ p' l' c' n i w1 ⟨rfl, rfl, e1, e2, rfl, t, rfl, ht, h1, f1⟩
  obtain rfl := e2.symm
  unfold F34_L1
  rw [e1]
  have hz1 := f1.size
  by_cases hlt : t < ys.length
  · rw [decide_eq_true (show ((t : Nat) : Int) < ((ys.length : Nat) : Int) by omega), BIf_true]
    have hx : ys[t]? = some ys[t] := List.getElem?_eq_getElem hlt
    have hmem := List.getElem_mem hlt
    generalize ys[t] = x at hx hmem
    have O1 := O.frT f1 (by decide)
    obtain ⟨q, rest, rfl, hB, _, _⟩ := O1.get (by omega)
    rw [NN_mk, Req_iff, Int.toNat_natCast, add_mk, Nat.zero_add]
    refine ⟨⟨by omega, by omega⟩, load_any (v := x.v) hB (by rw [List.getElem?_append_left (by simpa using hlt), List.getElem?_map, hx]; rfl) ?_⟩
    have p1 := insAll_perm ((ys.take t).map Spn.pl) M
    have hids : ∀ z ∈ insAll M ((ys.take t).map Spn.pl), z.id ≠ x.id := fun z hz e => by
      have hz := p1.mem_iff.1 hz
      have : ys = ys.take t ++ x :: ys.drop (t + 1) := by
        have := List.take_append_drop t ys
        rw [List.drop_eq_getElem_cons hlt] at this
        have e3 : ys[t] = x := by rw [List.getElem?_eq_getElem hlt] at hx; exact Option.some.inj hx
        rw [e3] at this; exact this.symm
      have e5 : M ++ ys.map Spn.pl = (M ++ (ys.take t).map Spn.pl) ++ x.pl :: (ys.drop (t + 1)).map Spn.pl := by
        rw [List.append_assoc, ← List.map_cons, ← List.map_append, ← this]
      rw [e5, List.map_append, List.map_cons] at hnd
      exact (List.nodup_append.1 hnd).2.2 z.id (List.mem_map.2 ⟨z, hz, rfl⟩) x.pl.id (by simp) e
    have hlen : (insAll M ((ys.take t).map Spn.pl)).length < 1000000 := by
      rw [p1.length_eq]; simp; omega
    refine F40_call (add1 h1 ((hy x hmem).frT f1 (by decide)) (by omega) hids hlen fun w2 h2 sp2 f2 => back0 ?_)
    rw [addI_i64 (by omega) (by omega)]
    refine ⟨⟨rfl, rfl, rfl, rfl, rfl, t + 1, by omega, hlt, ?_, f1.trans f2⟩, ?_⟩
    · rw [take_snoc hx, List.map_append]
      show TrB w2 base tb m (insAll M ((ys.take t).map Spn.pl ++ [x.pl]))
      rw [insAll_snoc]; exact h2
    · show ys.length - (((t : Nat) : Int) + 1).toNat < ys.length - ((t : Nat) : Int).toNat
      omega
  · rw [decide_eq_false (show ¬ ((t : Nat) : Int) < ((ys.length : Nat) : Int) by omega), BIf_false]
    have : t = ys.length := by omega
    subst this
    rw [List.take_length] at h1
    exact hk w1 h1 f1
/-- Delete. -/
theorem F35_spec {p : Option Addr} {c : Nat} {ys : List Spn} (h : TrB w base tb m M) (hb : base ≤ w.heap.size) (O : Own w 57 p ys.length c (ys.map Spn.v)) (hy : ∀ y ∈ ys, SpOk w y) (hnd : (M.map Sp.id).Nodup) (hyd : (ys.map Spn.id).Nodup) (hin : ∀ y ∈ ys, y.pl ∈ M) (hn : M.length < 1000000) (hyl : ys.length < 1000000)
    (hk : ∀ w', TrB w' base tb m (remAll M (ys.map Spn.pl)) → FrT base [71, 74] w w' → k (.tuple #[]) w') : F35 k (ta tb) p ys.length c w := by
  have h0 : TrF w base tb m M := by
    obtain ⟨D, s, T, h1, h2, h3, h4, h5⟩ := h
    exact ⟨D, s, T, h1, trivial, h3, h4, h5⟩
  unfold F35
  refine F35_L1_rule (I := fun t' p' l' c' n i w' => t' = ta tb ∧ p' = p ∧ l' = ys.length ∧ c' = c ∧ n = ((ys.length : Nat) : Int) ∧ ∃ t : Nat, i = ((t : Nat) : Int) ∧ t ≤ ys.length ∧ TrF w' base tb m (remAll M ((ys.take t).map Spn.pl)) ∧ FrT base [71, 74] w w')
    (μ := fun t' p' l' c' n i w' => ys.length - i.toNat) ?_ ⟨rfl, rfl, rfl, rfl, rfl, 0, rfl, Nat.zero_le _, h0, FrT.refl _ _ _⟩
  rintro _ p' l' c' n i w1 ⟨rfl, rfl, e1, e2, rfl, t, rfl, ht, h1, f1⟩
  obtain rfl := e2.symm
  unfold F35_L1
  rw [e1]
  have hz1 := f1.size
  have hsub : ∀ l : List Sp, (remAll M l).Sublist M := fun l => by rw [remAll_eq]; exact List.filter_sublist
  by_cases hlt : t < ys.length
  · rw [decide_eq_true (show ((t : Nat) : Int) < ((ys.length : Nat) : Int) by omega), BIf_true]
    have hx : ys[t]? = some ys[t] := List.getElem?_eq_getElem hlt
    have hmem := List.getElem_mem hlt
    generalize ys[t] = x at hx hmem
    have O1 := O.frT f1 (by decide)
    obtain ⟨q, rest, rfl, hB, _, _⟩ := O1.get (by omega)
    rw [NN_mk, Req_iff, Int.toNat_natCast, add_mk, Nat.zero_add]
    refine ⟨⟨by omega, by omega⟩, load_any (v := x.v) hB (by rw [List.getElem?_append_left (by simpa using hlt), List.getElem?_map, hx]; rfl) ?_⟩
    have hmm : x.pl ∈ remAll M ((ys.take t).map Spn.pl) := by
      rw [remAll_eq]
      refine List.mem_filter.2 ⟨hin x hmem, ?_⟩
      simp only [decide_eq_true_eq]
      intro hm
      rw [List.map_map] at hm
      have : ys = ys.take t ++ x :: ys.drop (t + 1) := by
        have := List.take_append_drop t ys
        rw [List.drop_eq_getElem_cons hlt] at this
        have e3 : ys[t] = x := by rw [List.getElem?_eq_getElem hlt] at hx; exact Option.some.inj hx
        rw [e3] at this; exact this.symm
      rw [this, List.map_append, List.map_cons] at hyd
      exact (List.nodup_append.1 hyd).2.2 x.id hm x.id (by simp) rfl
    have hlen : (remAll M ((ys.take t).map Spn.pl)).length < 1000000 := Nat.lt_of_le_of_lt (hsub _).length_le hn
    refine F41_call (del1 h1 ((hy x hmem).frT f1 (by decide)) (by omega) hmm (hnd.sublist ((hsub _).map _)) hlen fun w2 h2 sp2 f2 => back0 ?_)
    rw [addI_i64 (by omega) (by omega)]
    refine ⟨⟨rfl, rfl, rfl, rfl, rfl, t + 1, by omega, hlt, ?_, f1.trans f2⟩, ?_⟩
    · rw [take_snoc hx, List.map_append]
      show TrF w2 base tb m (remAll M ((ys.take t).map Spn.pl ++ [x.pl]))
      rw [remAll_snoc]; exact h2
    · show ys.length - (((t : Nat) : Int) + 1).toNat < ys.length - ((t : Nat) : Int).toNat
      omega
  · rw [decide_eq_false (show ¬ ((t : Nat) : Int) < ((ys.length : Nat) : Int) by omega), BIf_false]
    have : t = ys.length := by omega
    subst this
    rw [List.take_length] at h1
    obtain ⟨D, s, T, a1, -, a3, a4, a5⟩ := h1
    simp only [NN_mk]
    refine load_ptr (i := 0) a1.tr rfl ?_
    cases hT : T with
    | lf =>
      rw [show (!(oA CT.lf.blk).isNone) = false from rfl, BIf_false]
      exact hk w1 ⟨D, s, T, a1, by rw [hT]; trivial, a3, a4, a5⟩ f1
    | nd l n r =>
      have hb' : T.blk = some n.b := by rw [hT]; rfl
      rw [← hT, hb', show (!(oA (some n.b)).isNone) = true from rfl, BIf_true]
      refine load_ptr (i := 0) a1.tr rfl ?_
      rw [hb']
      have rt := a1.rt
      rw [hb'] at rt
      refine F42_call (F42_spec T a1.ms rt a1.nd a1.hD fun w2 s2 T2 m2 r2 sm bn oth f2 => back0 ?_)
      have eb := r2.blk
      have elen : T2.nds.length = T.nds.length := by rw [← xs_len, ← xs_len, sm.xs]
      have T0 : Tys (fun b => b ∈ T.bls) w1 [71] := fun b u us hb hu => by rw [(hu.unique (a1.ms b (a1.hD b hb)).1).1]; decide
      have tr2 := blk_ty a1.tr f2 T0 (by decide)
      obtain ⟨N, hN⟩ := a1.rb
      refine hk w2 ⟨D, s2, T2, ⟨m2, ?_, fun b hb => a1.hD b (by rw [← sm.bls]; exact hb), by rw [← eb]; exact r2, by rw [sm.2.2.1]; exact a1.rd, ⟨N, sm.2.2.2 N hN⟩, by rw [sm.bls]; exact a1.nd, by rw [sm.xs]; exact a1.so⟩, bn, by rw [sm.xs]; exact a3, a4, a5⟩ (f1.trans ⟨_, f2, fun b u us hb hu => ?_, fun b hb => a5 b (a1.hD b hb)⟩)
      · rw [← eb, elen, ← hb']; exact tr2
      · have := T0 b u us hb hu
        simp at this; rw [this]; decide
end
end Go.Proofs.Ythapmkjmfkmnoaa.E
