/-
  Plus trees: a split, of a node of whatever height.
-/
import Derived.Test.YtofnapddoiodkaaPtO
namespace Go.Proofs.Ytofnapddoiodkaa.E
open Go
set_option linter.unusedSimpArgs false
set_option linter.unusedVariables false
set_option maxRecDepth 100000
set_option maxHeartbeats 4000000

theorem app_eq {α : Type} {a b c d : List α} (h : a = b) (h' : c = d) : a ++ c = b ++ d := by rw [h, h']
/-- A node becomes two, with a key between them. -/
structure Spl (S base n : Nat) (t l r : Tr n) (m : KV) (lo hi : Option Int) : Prop where
  rt : root n r = root n t
  els : els n l ++ els n r = els n t
  inl : In n lo (some m.1) l
  inr : In n (some m.1) hi r
  lo : gtB lo m.1
  hi : ltB hi m.1
  sl : Sm S n l
  sr : Sm S n r
  nel : Ne (lfs n l)
  ner : Ne (lfs n r)
  wk : Wk (lfs n t) (lfs n l ++ lfs n r)
  nd : (bks n l ++ bks n r).Nodup
  bk : ∀ b ∈ bks n l ++ bks n r, b ∈ bks n t ∨ base ≤ b

theorem back_aaa {f : Value → Value → Value → W} {w : World} {a b c : Value} (h : f a b c w) : Back (.tup [(.one .any), (.one .any), (.one .any)]) f (.returned (.tuple #[a, b, c])) w := ⟨(a, b, c, ()), rfl, h⟩
theorem ref_one : ∀ {n : Nat} (t : Tr n), (ref n t).oneCell' = true
  | 0, _ => rfl
  | _ + 1, _ => rfl
theorem ref_cells : ∀ {n : Nat} (t : Tr n), (ref n t).cells = #[ref n t]
  | 0, _ => rfl
  | _ + 1, _ => rfl
theorem ref_oneC : ∀ {n : Nat} (t : Tr n), oneC (ref n t) = true
  | 0, _ => rfl
  | _ + 1, _ => rfl
theorem leaf_split {S base b q q' : Nat} {l : Lf} {m : KV} {lo hi : Option Int} (h2 : 2 ≤ l.ks.length) (hl : l.ks.length = S) (hIn : In 0 lo hi l) (hm : l.ks[l.ks.length / 2]? = some m) (hb : base ≤ b) (hq : base ≤ q) (hq' : base ≤ q') (hnd : [b, q, l.b, q'].Nodup) :
    Spl S base 0 l (⟨b, q, some l.b, l.ks.take (l.ks.length / 2)⟩ : Lf) (⟨l.b, q', l.p, l.ks.drop (l.ks.length / 2)⟩ : Lf) m lo hi := by
  generalize hi' : l.ks.length / 2 = i at *
  have hmem := List.mem_of_getElem? hm
  obtain ⟨s, hb2⟩ := (show Srt l.ks ∧ ∀ x ∈ l.ks, geB lo x.1 ∧ ltB hi x.1 from hIn)
  refine ⟨rfl, ?_, ⟨s.sublist (List.take_sublist _ _), fun x hx => ?_⟩, ⟨s.sublist (List.drop_sublist _ _), fun x hx => ?_⟩, ?_, (hb2 m hmem).2, ?_, ?_, ?_, ?_, Wk.two rfl rfl rfl, hnd, fun x hx => ?_⟩
  · exact (app_eq (els_zero _) (els_zero _)).trans ((List.take_append_drop _ _).trans (els_zero _).symm)
  · obtain ⟨j, hj⟩ := List.mem_iff_getElem?.1 hx
    have hji : j < i := by have := (List.getElem?_eq_some_iff.1 hj).1; simp at this; omega
    rw [List.getElem?_take, if_pos hji] at hj
    exact ⟨(hb2 x (List.mem_of_getElem? hj)).1, ltB_some.2 (srt_lt s hj hm hji)⟩
  · obtain ⟨j, hj⟩ := List.mem_iff_getElem?.1 hx
    rw [List.getElem?_drop] at hj
    refine ⟨geB_some.2 ?_, (hb2 x (List.mem_of_getElem? hj)).2⟩
    by_cases e : j = 0
    · subst e
      rw [Nat.add_zero, hm] at hj; cases hj; exact Int.le_refl _
    · exact Int.le_of_lt (srt_lt s hm hj (by omega))
  · have h0 : l.ks[0]? = some (l.ks[0]'(by omega)) := List.getElem?_eq_getElem (by omega)
    have h1 := srt_lt s h0 hm (by omega)
    have h2 := (hb2 _ (List.mem_of_getElem? h0)).1
    intro y hy
    have := h2 y hy; omega
  · show (l.ks.take i).length < S
    simp; omega
  · show (l.ks.drop i).length < S
    simp; omega
  · intro y hy
    rw [show lfs 0 (⟨b, q, some l.b, l.ks.take i⟩ : Lf) = [⟨b, q, some l.b, l.ks.take i⟩] from rfl, List.mem_singleton] at hy
    subst hy
    intro e
    have := congrArg List.length e
    rw [List.length_take, List.length_nil] at this; omega
  · intro y hy
    rw [show lfs 0 (⟨l.b, q', l.p, l.ks.drop i⟩ : Lf) = [⟨l.b, q', l.p, l.ks.drop i⟩] from rfl, List.mem_singleton] at hy
    subst hy
    intro e
    have := congrArg List.length e
    rw [List.length_drop, List.length_nil] at this; omega
  · have hx : x ∈ [b, q, l.b, q'] := hx
    simp only [List.mem_cons, List.not_mem_nil, or_false] at hx
    rcases hx with rfl | rfl | rfl | rfl
    · exact .inr hb
    · exact .inr hq
    · exact .inl (by simp [bks])
    · exact .inr hq'
theorem node_split {S base n b q q' r r' : Nat} {d : Nd} {cs : List (Tr n)} {m : KV} {lo hi : Option Int} (h3 : 3 ≤ d.ks.length) (hl : d.ks.length = S) (hIn : In (n + 1) lo hi (d, cs)) (hsm : ∀ c ∈ cs, Sm S n c) (hm : d.ks[d.ks.length / 2]? = some m) (hne : Ne (lfs (n + 1) (d, cs)))
    (hnd0 : (bks (n + 1) (d, cs)).Nodup) (hb : base ≤ b) (hq : base ≤ q) (hq' : base ≤ q') (hr : base ≤ r) (hr' : base ≤ r') (hnd : [b, q, r, d.b, q', r'].Nodup) (hlt : ∀ x ∈ bks (n + 1) (d, cs), x < base) :
    Spl S base (n + 1) (d, cs) (⟨b, q, r, d.ks.take (d.ks.length / 2)⟩, cs.take (d.ks.length / 2 + 1)) (⟨d.b, q', r', d.ks.drop (d.ks.length / 2 + 1)⟩, cs.drop (d.ks.length / 2 + 1)) m lo hi := by
  have hch : Ch (In n) lo hi d.ks cs := hIn
  have hcl := hch.len
  generalize hi' : d.ks.length / 2 = i at *
  have e1 : d.ks = d.ks.take i ++ m :: d.ks.drop (i + 1) := by
    have h := (List.getElem?_eq_some_iff.1 hm)
    obtain ⟨h4, h5⟩ := h
    rw [← h5, ← List.drop_eq_getElem_cons h4, List.take_append_drop]
  have e2 : cs = cs.take (i + 1) ++ cs.drop (i + 1) := (List.take_append_drop _ _).symm
  have hch2 := hch
  rw [e1, e2] at hch2
  obtain ⟨g1, g2, g3, g4⟩ := hch2.split (by simp; omega)
  have hlf : lfs (n + 1) (d, cs) = (cs.take (i + 1)).flatMap (lfs n) ++ (cs.drop (i + 1)).flatMap (lfs n) := by
    show cs.flatMap (lfs n) = _
    rw [← List.flatMap_append, ← e2]
  have hbf : cs.flatMap (bks n) = (cs.take (i + 1)).flatMap (bks n) ++ (cs.drop (i + 1)).flatMap (bks n) := by rw [← List.flatMap_append, ← e2]
  have hnd1 : (d.b :: d.q :: d.r :: cs.flatMap (bks n)).Nodup := hnd0
  have hlt1 : ∀ x ∈ d.b :: d.q :: d.r :: cs.flatMap (bks n), x < base := hlt
  have hcs : ∀ x ∈ cs.flatMap (bks n), x < base ∧ x ≠ d.b := fun x hx => ⟨hlt1 x (by simp only [List.mem_cons]; exact .inr (.inr (.inr hx))), fun e => by
    rw [e] at hx
    exact (List.nodup_cons.1 hnd1).1 (by simp only [List.mem_cons]; exact .inr (.inr hx))⟩
  have hndc : (cs.flatMap (bks n)).Nodup := (List.nodup_cons.1 (List.nodup_cons.1 (List.nodup_cons.1 hnd1).2).2).2
  refine ⟨rfl, ?_, g1, g2, g3, g4, ⟨?_, fun c hc => hsm c (List.mem_of_mem_take hc)⟩, ⟨?_, fun c hc => hsm c (List.mem_of_mem_drop hc)⟩, ?_, ?_, ?_, ?_, ?_⟩
  · refine (app_eq (els_succ n _) (els_succ n _)).trans (Eq.trans ?_ (els_succ n _).symm)
    show List.flatMap (els n) (cs.take (i + 1)) ++ List.flatMap (els n) (cs.drop (i + 1)) = cs.flatMap (els n)
    rw [← List.flatMap_append, ← e2]
  · show (d.ks.take i).length < S
    simp; omega
  · show (d.ks.drop (i + 1)).length < S
    simp; omega
  · intro y hy
    exact hne y (by rw [hlf]; exact List.mem_append_left _ hy)
  · intro y hy
    exact hne y (by rw [hlf]; exact List.mem_append_right _ hy)
  · rw [hlf]; exact Wk.refl _
  · show (b :: q :: r :: (cs.take (i + 1)).flatMap (bks n) ++ d.b :: q' :: r' :: (cs.drop (i + 1)).flatMap (bks n)).Nodup
    have hp : (b :: q :: r :: (cs.take (i + 1)).flatMap (bks n) ++ d.b :: q' :: r' :: (cs.drop (i + 1)).flatMap (bks n)).Perm ([b, q, r, d.b, q', r'] ++ cs.flatMap (bks n)) := by
      rw [hbf]
      simp only [List.cons_append, List.nil_append]
      refine (List.Perm.cons _ (List.Perm.cons _ (List.Perm.cons _ ?_)))
      have : d.b :: q' :: r' :: (cs.drop (i + 1)).flatMap (bks n) = [d.b, q', r'] ++ (cs.drop (i + 1)).flatMap (bks n) := rfl
      rw [this]
      refine (List.perm_append_comm_assoc _ _ _).trans ?_
      exact List.Perm.refl _
    refine hp.nodup_iff.2 (List.nodup_append.2 ⟨hnd, hndc, fun x hx y hy => ?_⟩)
    have := hcs y hy
    simp only [List.mem_cons, List.not_mem_nil, or_false] at hx
    rcases hx with rfl | rfl | rfl | rfl | rfl | rfl <;> omega
  · intro x hx
    have hx : x ∈ b :: q :: r :: (cs.take (i + 1)).flatMap (bks n) ++ d.b :: q' :: r' :: (cs.drop (i + 1)).flatMap (bks n) := hx
    simp only [List.cons_append, List.mem_cons, List.mem_append] at hx
    show x ∈ d.b :: d.q :: d.r :: cs.flatMap (bks n) ∨ base ≤ x
    rw [hbf]
    simp only [List.mem_cons, List.mem_append]
    rcases hx with rfl | rfl | rfl | hx | rfl | rfl | rfl | hx
    · exact .inr hb
    · exact .inr hq
    · exact .inr hr
    · exact .inl (.inr (.inr (.inr (.inl hx))))
    · exact .inl (.inl rfl)
    · exact .inr hq'
    · exact .inr hr'
    · exact .inl (.inr (.inr (.inr (.inr hx))))
theorem split_spec {w : World} {S : Nat} {lo hi : Option Int} {f : Value → Value → Value → W} (h3 : 3 ≤ S) (hS : S < 4294967296) : ∀ {n : Nat} {t : Tr n}, Mm w S n t → (bks n t).Nodup → In n lo hi t → Sm1 S n t → nk n t = S → Ne (lfs n t) →
    (∀ w' l r m, Mm w' S n l → Mm w' S n r → Spl S w.heap.size n t l r m lo hi → Fr (fun b => b ∈ bks n t) w w' → f (kv m) (ref n l) (ref n r) w') →
    NextT Try.prog (callMethod (ref n t) "given.example/pub-spokeshave/pub/godatastructures/btree/plus.split" [].toArray) (.tup [(.one .any), (.one .any), (.one .any)]) f w
  | 0, l, h, hnd, hIn, hs, hk, hne, hf => by
    have h : LfM w S l := h
    have hk : (Lf.ks l).length = S := hk
    have hm : (Lf.ks l)[(Lf.ks l).length / 2]? = some ((Lf.ks l)[(Lf.ks l).length / 2]'(by omega)) := List.getElem?_eq_getElem (by omega)
    refine NextT_enter (meth_s68 _ w) (F49_calls (F49_spec h (by omega) (by omega) hS hm fun w' b q q' h1 h2 hb hq hq' hn f' => ?_))
    exact back_aaa (hf w' (⟨b, q, some (Lf.b l), (Lf.ks l).take ((Lf.ks l).length / 2)⟩ : Lf) (⟨Lf.b l, q', Lf.p l, (Lf.ks l).drop ((Lf.ks l).length / 2)⟩ : Lf) _ h1 h2 (leaf_split (by omega) hk hIn hm hb hq hq' hn) (f'.mono fun x hx => .inl (by
      have hx : x = Lf.b l := hx
      subst hx; simp [bks])))
  | n + 1, (d, cs), h, hnd, hIn, hs, hk, hne, hf => by
    obtain ⟨hN, hC⟩ := h
    have hN : NdM w S d (cs.map (ref n)) := hN
    have hk : d.ks.length = S := hk
    have hm : d.ks[d.ks.length / 2]? = some (d.ks[d.ks.length / 2]'(by omega)) := List.getElem?_eq_getElem (by omega)
    have hcl : cs.length = d.ks.length + 1 := (show Ch (In n) lo hi d.ks cs from hIn).len
    refine NextT_enter (meth_s83 _ w) (F54_calls (F54_spec (d := d) hN (by omega) (by omega) (by simpa using hcl) hS hm (fun v hv => by
      obtain ⟨c, _, rfl⟩ := List.mem_map.1 hv; exact ref_one c) fun w' b q q' r r' h1 h2 hb hq hq' hr hr' hn f' => ?_))
    have hdb : ∀ c ∈ cs, ∀ x ∈ bks n c, x ≠ d.b := fun c hc x hx e => by
      have hnd1 : (d.b :: d.q :: d.r :: cs.flatMap (bks n)).Nodup := hnd
      rw [e] at hx
      exact (List.nodup_cons.1 hnd1).1 (by simp only [List.mem_cons, List.mem_flatMap]; exact .inr (.inr ⟨c, hc, hx⟩))
    have hC' : ∀ c ∈ cs, Mm w' S n c := fun c hc => (hC c hc).fr f' fun x hx => hdb c hc x hx
    rw [← List.map_take] at h1
    rw [← List.map_drop] at h2
    have h : Mm w S (n + 1) (d, cs) := ⟨hN, hC⟩
    exact back_aaa (hf w' (⟨b, q, r, d.ks.take (d.ks.length / 2)⟩, cs.take (d.ks.length / 2 + 1)) (⟨d.b, q', r', d.ks.drop (d.ks.length / 2 + 1)⟩, cs.drop (d.ks.length / 2 + 1)) _ ⟨h1, fun c hc => hC' c (List.mem_of_mem_take hc)⟩ ⟨h2, fun c hc => hC' c (List.mem_of_mem_drop hc)⟩
      (node_split (by omega) hk hIn hs.2 hm hne hnd hb hq hq' hr hr' hn fun x hx => h.lt hx) (f'.mono fun x hx => .inl (by
        have hx : x = d.b := hx
        subst hx; simp [bks])))
end Go.Proofs.Ytofnapddoiodkaa.E
