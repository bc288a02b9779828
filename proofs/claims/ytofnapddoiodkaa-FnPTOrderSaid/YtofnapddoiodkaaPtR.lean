/-
  Plus trees: a full child of an inner node is split.
-/
import Derived.Test.YtofnapddoiodkaaPtQ
namespace Go.Proofs.Ytofnapddoiodkaa.E
open Go
set_option linter.unusedSimpArgs false
set_option linter.unusedVariables false
set_option maxRecDepth 100000
set_option maxHeartbeats 4000000

abbrev tl (l : Lf) : Tr 0 := l
/-- Where a leaf was split, the leaf in front of it may be told of the new one. -/
def Fix : (n : Nat) → List (Tr n) → Tr n → List (Tr n) → Prop
  | 0, A, l, A' => A' = A ∨ ∃ (A0 : List (Tr 0)) (a : Lf), A = A0 ++ [tl a] ∧ A' = A0 ++ [tl { a with p := some (Lf.b l) }]
  | _ + 1, A, _, A' => A' = A
structure FixP (S n : Nat) (A : List (Tr n)) (l : Tr n) (A' : List (Tr n)) : Prop where
  len : A'.length = A.length
  each : ∀ (i : Nat) (a b : Tr n), A[i]? = some a → A'[i]? = some b → ∀ lo hi, In n lo hi a → In n lo hi b
  bk : A'.flatMap (bks n) = A.flatMap (bks n)
  el : A'.flatMap (els n) = A.flatMap (els n)
  sm : (∀ a ∈ A, Sm S n a) → ∀ a ∈ A', Sm S n a
  ne : (∀ a ∈ A, Ne (lfs n a)) → ∀ a ∈ A', Ne (lfs n a)
  wk : ∀ X, Wk (A.flatMap (lfs n) ++ (lfs n l ++ X)) (A'.flatMap (lfs n) ++ (lfs n l ++ X))
  rf : A'.map (ref n) = A.map (ref n)
theorem FixP.same {S n : Nat} (A : List (Tr n)) (l : Tr n) : FixP S n A l A :=
  ⟨rfl, fun i a b h h' lo hi hI => by rw [h] at h'; cases h'; exact hI, rfl, rfl, fun h => h, fun h => h, fun X => Wk.refl _, rfl⟩
theorem FixP.leaf {S : Nat} (A0 : List (Tr 0)) (a l : Lf) : FixP S 0 (A0 ++ [tl a]) (tl l) (A0 ++ [tl { a with p := some l.b }]) := by
  refine ⟨by simp, fun i x y h h' lo hi hI => ?_, ?_, ?_, fun h x hx => ?_, fun h x hx => ?_, fun X => ?_, ?_⟩
  · by_cases hi' : i < A0.length
    · rw [List.getElem?_append_left hi'] at h h'
      rw [h] at h'; cases h'; exact hI
    · rw [List.getElem?_append_right (by omega)] at h h'
      by_cases e : i - A0.length = 0
      · rw [e] at h h'
        cases h; cases h'
        exact hI
      · rw [List.getElem?_eq_none (by simp; omega)] at h
        cases h
  · rw [List.flatMap_append, List.flatMap_append]; rfl
  · rw [List.flatMap_append, List.flatMap_append]; rfl
  · rcases List.mem_append.1 hx with hx | hx
    · exact h x (List.mem_append_left _ hx)
    · rw [List.mem_singleton] at hx
      subst hx
      exact h a (List.mem_append_right _ (List.mem_singleton.2 rfl))
  · rcases List.mem_append.1 hx with hx | hx
    · exact h x (List.mem_append_left _ hx)
    · rw [List.mem_singleton] at hx
      subst hx
      have := h a (List.mem_append_right _ (List.mem_singleton.2 rfl))
      intro y hy
      have hy : y ∈ [({ a with p := some l.b } : Lf)] := hy
      rw [List.mem_singleton] at hy
      subst hy
      exact this a (List.mem_singleton.2 rfl)
  · rw [List.flatMap_append, List.flatMap_append, List.append_assoc, List.append_assoc]
    have : Wk ([a] ++ (l :: X)) ([({ a with p := some l.b } : Lf)] ++ (l :: X)) := Wk.front rfl rfl
    have := this.mid (A0.flatMap (lfs 0)) []
    simp only [List.append_nil] at this
    exact this
  · rw [List.map_append, List.map_append]; rfl
theorem Fix.props {S : Nat} : ∀ {n : Nat} {A : List (Tr n)} {l : Tr n} {A' : List (Tr n)}, Fix n A l A' → FixP S n A l A'
  | 0, A, l, A', h => by
    rcases h with rfl | ⟨A0, a, rfl, rfl⟩
    · exact FixP.same _ _
    · exact FixP.leaf A0 a l
  | _ + 1, A, l, A', h => by
    have h : A' = A := h
    subst h; exact FixP.same _ _

section
variable {w : World} {S : Nat}
theorem F20_J1_spec {k : Value → W} {d : Nd} {vs : List Value} {m : KV} {lv rv pv : Value} {i : Nat} (h : NdM w S d vs) (hd : [d.b, d.q, d.r].Nodup) (hl : d.ks.length < S) (hv : vs.length = d.ks.length + 1) (hi : i ≤ d.ks.length) (hS : S < 4000000000)
    (h1 : ∀ u ∈ vs, u.oneCell' = true) (hl1 : lv.oneCell' = true) (hr1 : rv.oneCell' = true) (hlo : oneC lv = true) (hro : oneC rv = true) (hlc : lv.cells = #[lv]) (hrc : rv.cells = #[rv])
    (hk : ∀ w', NdM w' S { d with ks := d.ks.take i ++ m :: d.ks.drop i } (vs.take i ++ lv :: rv :: vs.drop (i + 1)) → Fr (fun x => x = d.b ∨ x = d.q ∨ x = d.r) w w' → k pv w') : F20_J1 k pv (kv m) lv rv (some ⟨d.b, 0, none⟩) ((i : Nat) : Int) w := by
  simp only [List.nodup_cons, List.mem_cons, List.not_mem_nil, or_false, not_false_eq_true, List.nodup_nil, and_true, not_or] at hd
  obtain ⟨⟨d1, d2⟩, d3⟩ := hd
  unfold F20_J1
  rw [NN_mk]
  have hq := h.q
  rw [← kvs_length] at hq
  refine F24_call (F24_spec (o := 0) h.a (by rw [kvs_length]; rfl) hq d1 (by rw [kvs_length]; exact hl) (by omega) (by rw [kvs_length]; omega) (fun u hu => ?_) rfl rfl fun w1 f1 b1 o1 => back0 ?_)
  · rcases List.mem_cons.1 hu with rfl | hu
    · rfl
    · exact kvs_one _ u hu
  have hr := h.r.fr f1 fun b hb hx => by
    rw [bl_q.1 hb] at hx
    rcases hx with e | e
    · exact d2 e.symm
    · exact d3 e.symm
  have b1 : Blk w1 d.b 88 [.slice (some ⟨d.q, 0, none⟩) ((kvs d.ks).length + 1) S, .slice (some ⟨d.r, 0, none⟩) vs.length (S + 1)] := b1
  rw [NN_mk]
  refine load_slice (i := 1) b1 rfl ?_
  rw [NN_mk, Req_iff, Int.toNat_natCast, add_mk, Nat.zero_add]
  refine ⟨by omega, hlo, ?_⟩
  obtain ⟨rest, hB, hBc, hBm⟩ := hr.full
  refine store_intro hB (by simp; omega) hlo fun w2 b2 f2 z2 => ?_
  rw [List.set_append_left _ _ (by omega)] at b2
  have b12 := b1.fr f2 (show ¬ d.b = d.r from d2)
  have o2 := o1.fr f2 fun b hb => by rw [bl_q.1 hb]; exact d3
  have hr2 : Own w2 62 (some ⟨d.r, 0, none⟩) (vs.set i lv).length (S + 1) (vs.set i lv) := Own.mk' b2 rfl (by simpa using hBc) hBm
  rw [NN_mk, addI_i64 (by omega) (by omega), show ((i : Nat) : Int) + 1 = ((i + 1 : Nat) : Int) by omega]
  refine F27_call (F27_spec (o := 1) b12 (by rw [List.length_set]; rfl) hr2 d2 (by rw [List.length_set]; omega) (by omega) (by rw [List.length_set]; omega) (fun u hu => ?_) hro hrc fun w3 f3 b3 o3 => back0 ?_)
  · rcases List.mem_cons.1 hu with rfl | hu
    · exact hr1
    · rcases List.mem_or_eq_of_mem_set hu with hu | rfl
      · exact h1 u hu
      · exact hl1
  have o2 := o2.fr f3 fun b hb hx => by
    rw [bl_q.1 hb] at hx
    rcases hx with e | e
    · exact d1 e.symm
    · exact d3 e
  refine hk w3 ⟨?_, ?_, ?_⟩ ?_
  · have e1 : (d.ks.take i ++ m :: d.ks.drop i).length = (kvs d.ks).length + 1 := by simp; omega
    have e2 : (vs.take i ++ lv :: rv :: vs.drop (i + 1)).length = (vs.set i lv).length + 1 := by simp; omega
    rw [e1, e2]; exact b3
  · have e1 : (d.ks.take i ++ m :: d.ks.drop i).length = (kvs d.ks).length + 1 := by simp; omega
    rw [e1, kvs_app, ← kvs_take]
    rw [kvs_drop] at o2; exact o2
  · have e2 : (vs.take i ++ lv :: rv :: vs.drop (i + 1)).length = (vs.set i lv).length + 1 := by simp; omega
    have e3 : (vs.set i lv).take (i + 1) ++ rv :: (vs.set i lv).drop (i + 1) = vs.take i ++ lv :: rv :: vs.drop (i + 1) := by
      rw [List.drop_set_of_lt (by omega), List.take_add_one, List.getElem?_set, if_pos rfl, if_pos (by omega), List.take_set_of_le (by omega)]
      simp
    rw [e2, ← e3]; exact o3
  · refine ((f1.mono fun x hx => .inl ?_).trans f2 fun x hx => .inl (.inr (.inr hx))).trans f3 fun x hx => .inl ?_
    · rcases hx with h | h
      · exact .inl h
      · exact .inr (.inl h)
    · rcases hx with h | h
      · exact .inl h
      · exact .inr (.inr h)
theorem F26_spec {k : Value → W} {d : Nd} {vs : List Value} {x : KV} (h : NdM w S d vs) (s : Srt d.ks) (hl : d.ks.length < 4294967296) (hk : ∀ w', Fr (fun _ => False) w w' → k (.int .i64 ((pos x.1 d.ks : Nat) : Int)) w') : F26 k (some ⟨d.b, 0, none⟩) (kv x) w := by
  unfold F26
  rw [NN_mk]
  refine load_slice (i := 0) h.a rfl ?_
  exact F28_call (F28_spec h.q s hl fun w' f => back_int (hk w' f))
def needs : String := "given.example/pub-spokeshave/pub/godatastructures/btree/plus.needsSplit"
theorem meth_ok : ∀ {n : Nat} (t : Tr n) (w' : World), (execOp (fun _ => (.func (.method needs) #[ref n t] #[])) { dst := none, op := .nilCheck (.tmp 0), type := 0, pos := "", after := #[], guard := none }).run Try.prog w' = .ok (.value (.func (.method needs) #[ref n t] #[])) w'
  | 0, l, w' => by kernel_rfl
  | n + 1, t, w' => by kernel_rfl
theorem ta_leaf (p : Option Addr) (w : World) : (Instr.typeAssert (.iface 68 (.pointer p)) 62 68 true).run Try.prog w = .ok (.tuple #[.pointer p, .bool true]) w := by kernel_rfl
theorem ta_node (p : Option Addr) (w : World) : (Instr.typeAssert (.iface 83 (.pointer p)) 62 68 true).run Try.prog w = .ok (.tuple #[.pointer none, .bool false]) w := by kernel_rfl
theorem ta_pb {P : Program} {s : Sem Value} {p : Option Addr} {b : Bool} {f : Option Addr → Bool → W} {w : World} (h : s.run P w = .ok (.tuple #[.pointer p, .bool b]) w) (hk : f p b w) : RawS P s (.tup [(.one .ptr), (.one .bool)]) f w := ⟨(p, b, ()), h, hk⟩
theorem tas_ptr {t : TypeId} {p : Option Addr} {f : Option Addr → W} {w : World} (hk : f p w) : TAs (.iface t (.pointer p)) t (.s (.one .ptr)) f w := ⟨(p, ()), rfl, hk⟩
theorem map_ref_one {n : Nat} (l : List (Tr n)) : ∀ u ∈ l.map (ref n), u.oneCell' = true := fun u hu => by
  obtain ⟨c, _, rfl⟩ := List.mem_map.1 hu; exact ref_one c
theorem F20_par {k : Value → W} {n : Nat} {d : Nd} {A B : List (Tr n)} {c : Tr n} {lo' hi' : Option Int} {tb : Nat} {us : List Value}
    (hT : Blk w tb 64 us) (hT1 : us[1]? = some (.int .u64 ((S : Nat) : Int))) (h3 : 3 ≤ S) (hS : S < 4000000000)
    (hN : NdM w S d ((A ++ c :: B).map (ref n))) (hM : ∀ x ∈ A ++ c :: B, Mm w S n x) (hnd : (bks (n + 1) (d, A ++ c :: B)).Nodup)
    (hIn : In n lo' hi' c) (hs : Sm1 S n c) (hnk : nk n c = S) (hne : Ne (lfs n c)) (hks : Srt d.ks) (hkl : d.ks.length < S) (hlen : (A ++ c :: B).length = d.ks.length + 1)
    (hpos : ∀ m, gtB lo' m → ltB hi' m → pos m d.ks = A.length)
    (hk : ∀ w' A' l r m, Fix n A l A' → Spl S w.heap.size n c l r m lo' hi' → NdM w' S { d with ks := d.ks.take A.length ++ m :: d.ks.drop A.length } ((A' ++ l :: r :: B).map (ref n)) → (∀ x ∈ A' ++ l :: r :: B, Mm w' S n x) →
      Fr (fun b => b ∈ bks (n + 1) (d, A ++ c :: B)) w w' → k (.iface 83 (.pointer (some ⟨d.b, 0, none⟩))) w') :
    F20 k (some ⟨tb, 0, none⟩) (.iface 83 (.pointer (some ⟨d.b, 0, none⟩))) (ref n c) w := by
  have hnd1 : (d.b :: d.q :: d.r :: (A ++ c :: B).flatMap (bks n)).Nodup := hnd
  have hX : (A ++ c :: B).flatMap (bks n) = A.flatMap (bks n) ++ (bks n c ++ B.flatMap (bks n)) := by rw [List.flatMap_append, List.flatMap_cons]
  have hd3 : [d.b, d.q, d.r].Nodup := by
    have : ([d.b, d.q, d.r] ++ (A ++ c :: B).flatMap (bks n)).Nodup := hnd1
    exact (List.nodup_append.1 this).1
  have hdis : ∀ x ∈ A ++ c :: B, ∀ b ∈ bks n x, b ≠ d.b ∧ b ≠ d.q ∧ b ≠ d.r := fun x hx b hb => by
    have h : ([d.b, d.q, d.r] ++ (A ++ c :: B).flatMap (bks n)).Nodup := hnd1
    have h := (List.nodup_append.1 h).2.2
    have hm : b ∈ (A ++ c :: B).flatMap (bks n) := List.mem_flatMap.2 ⟨x, hx, hb⟩
    exact ⟨fun e => h d.b (by simp) b hm e.symm, fun e => h d.q (by simp) b hm e.symm, fun e => h d.r (by simp) b hm e.symm⟩
  have hndc : (A.flatMap (bks n) ++ (bks n c ++ B.flatMap (bks n))).Nodup := by
    rw [← hX]
    exact (List.nodup_append.1 (show ([d.b, d.q, d.r] ++ (A ++ c :: B).flatMap (bks n)).Nodup from hnd1)).2.1
  obtain ⟨nA, nCB, nA'⟩ := List.nodup_append.1 hndc
  obtain ⟨nC, nB, nC'⟩ := List.nodup_append.1 nCB
  have hAc : ∀ x ∈ A, ∀ b ∈ bks n x, b ∉ bks n c := fun x hx b hb hc => nA' b (List.mem_flatMap.2 ⟨x, hx, hb⟩) b (List.mem_append_left _ hc) rfl
  have hBc : ∀ x ∈ B, ∀ b ∈ bks n x, b ∉ bks n c := fun x hx b hb hc => nC' b hc b (List.mem_flatMap.2 ⟨x, hx, hb⟩) rfl
  have hMc := hM c (by simp)
  unfold F20
  refine drw_intro fun w1 f1 z1 => ?_
  rw [NN_mk]
  refine load_int (i := 1) (hT.fr f1 id) hT1 ?_
  refine ⟨fun w' => meth_ok c w', ?_⟩
  refine full_spec (by omega) (hMc.fr0 f1) (by omega) ?_
  rw [hnk, decide_eq_true (Nat.le_refl S), Bool.not_true, BIf_false]
  refine split_spec h3 (by omega) (hMc.fr0 f1) nC hIn hs hnk hne fun w2 l r m hl hr sp f2 => ?_
  rw [z1] at sp
  have f02 : Fr (fun b => b ∈ bks n c) w w2 := (f1.mono fun _ h => h.elim).trans f2 fun b hb => .inl hb
  have hA2 : ∀ x ∈ A, Mm w2 S n x := fun x hx => (hM x (List.mem_append_left _ hx)).fr f02 (hAc x hx)
  have hB2 : ∀ x ∈ B, Mm w2 S n x := fun x hx => (hM x (by simp [hx])).fr f02 (hBc x hx)
  have hcm : c ∈ A ++ c :: B := by simp
  have hN2 : NdM w2 S d ((A ++ c :: B).map (ref n)) := hN.fr f02 (fun hb => (hdis c hcm _ hb).1 rfl) (fun hb => (hdis c hcm _ hb).2.1 rfl) fun hb => (hdis c hcm _ hb).2.2 rfl
  have hbl : d.b < w.heap.size ∧ d.q < w.heap.size ∧ d.r < w.heap.size := ⟨hN.a.lt, hN.q.lt ⟨_, rfl, rfl⟩, hN.r.lt ⟨_, rfl, rfl⟩⟩
  have hlr : ∀ b ∈ bks n l ++ bks n r, b ≠ d.b ∧ b ≠ d.q ∧ b ≠ d.r := fun b hb => by
    rcases sp.bk b hb with h | h
    · exact hdis c hcm b h
    · omega
  rw [IfaceNil_iface, BIf_false]
  refine ⟨(some ⟨d.b, 0, none⟩, ()), rfl, ?_⟩
  refine F26_call (F26_spec hN2 hks (by omega) fun w3 f3 => back_int ?_)
  rw [hpos _ sp.lo sp.hi]
  have hN3 := hN2.fr f3 id id id
  have hA3 : ∀ x ∈ A, Mm w3 S n x := fun x hx => (hA2 x hx).fr0 f3
  have hB3 : ∀ x ∈ B, Mm w3 S n x := fun x hx => (hB2 x hx).fr0 f3
  have hl3 := hl.fr0 f3
  have hr3 := hr.fr0 f3
  have f03 := f02.trans f3 fun _ h => h.elim
  have hlen2 : A.length ≤ d.ks.length := by simp at hlen; omega
  -- behind the leaf in front
  have fin : ∀ (w4 : World) (A' : List (Tr n)), Fix n A l A' → NdM w4 S d ((A ++ c :: B).map (ref n)) → (∀ x ∈ A', Mm w4 S n x) → (∀ x ∈ B, Mm w4 S n x) → Mm w4 S n l → Mm w4 S n r → Fr (fun b => b ∈ bks (n + 1) (d, A ++ c :: B)) w w4 →
      F20_J1 k (.iface 83 (.pointer (some ⟨d.b, 0, none⟩))) (kv m) (ref n l) (ref n r) (some ⟨d.b, 0, none⟩) ((A.length : Nat) : Int) w4 := fun w4 A' hF hN4 hA4 hB4 hl4 hr4 f4 => by
    refine F20_J1_spec hN4 hd3 hkl (by simpa using hlen) hlen2 hS (map_ref_one _) (ref_one _) (ref_one _) (ref_oneC _) (ref_oneC _) (ref_cells _) (ref_cells _) fun w5 h5 f5 => ?_
    have P := hF.props (S := S)
    have eA : (A ++ c :: B).map (ref n) = A'.map (ref n) ++ ref n c :: B.map (ref n) := by rw [P.rf]; simp
    have h5' : NdM w5 S { d with ks := d.ks.take A.length ++ m :: d.ks.drop A.length } ((A' ++ l :: r :: B).map (ref n)) := by
      have e : ((A ++ c :: B).map (ref n)).take A.length ++ ref n l :: ref n r :: ((A ++ c :: B).map (ref n)).drop (A.length + 1) = (A' ++ l :: r :: B).map (ref n) := by
        rw [eA, List.take_append_of_le_length (by simp [P.len]), List.take_of_length_le (by simp [P.len]), List.drop_append, List.drop_of_length_le (by simp [P.len])]
        simp [P.len]
      rw [← e]; exact h5
    have hd5 : ∀ x : Tr n, (∀ b ∈ bks n x, b ≠ d.b ∧ b ≠ d.q ∧ b ≠ d.r) → Mm w4 S n x → Mm w5 S n x := fun x hb h => h.fr f5 fun b hb' hx => by
      obtain ⟨g1, g2, g3⟩ := hb b hb'
      rcases hx with e | e | e
      · exact g1 e
      · exact g2 e
      · exact g3 e
    refine hk w5 A' l r m hF sp h5' (fun x hx => ?_) (f4.trans f5 fun b hb => .inl ?_)
    · rcases List.mem_append.1 hx with hx | hx
      · refine hd5 x (fun b hb => ?_) (hA4 x hx)
        have : b ∈ A'.flatMap (bks n) := List.mem_flatMap.2 ⟨x, hx, hb⟩
        rw [P.bk] at this
        obtain ⟨y, hy, hb⟩ := List.mem_flatMap.1 this
        exact hdis y (List.mem_append_left _ hy) b hb
      · rcases List.mem_cons.1 hx with rfl | hx
        · exact hd5 _ (fun b hb => hlr b (List.mem_append_left _ hb)) hl4
        · rcases List.mem_cons.1 hx with rfl | hx
          · exact hd5 _ (fun b hb => hlr b (List.mem_append_right _ hb)) hr4
          · exact hd5 x (fun b hb => hdis x (by simp [hx]) b hb) (hB4 x hx)
    · show b ∈ d.b :: d.q :: d.r :: (A ++ c :: B).flatMap (bks n)
      rcases hb with e | e | e <;> simp [show b = _ from e]
  have f03' : Fr (fun b => b ∈ bks (n + 1) (d, A ++ c :: B)) w w3 := f03.mono fun b hb => .inl (by
    show b ∈ d.b :: d.q :: d.r :: (A ++ c :: B).flatMap (bks n)
    rw [hX]; simp only [List.mem_cons, List.mem_append]; exact .inr (.inr (.inr (.inr (.inl hb)))))
  match n, A, B, c, l, r, hN, hM, hnd, hIn, hs, hnk, hne, hlen, hpos, hk, sp, hN3, hA3, hB3, hl3, hr3, fin, f03', hnd1, hX, hAc, hdis, hlen2, hndc, nA, nA', f03, nC, nB, nC', nCB, hBc, hcm, hlr with
  | 0, A, B, c, l, r, hN, hM, hnd, hIn, hs, hnk, hne, hlen, hpos, hk, sp, hN3, hA3, hB3, hl3, hr3, fin, f03', hnd1, hX, hAc, hdis, hlen2, hndc, nA, nA', f03, nC, nB, nC', nCB, hBc, hcm, hlr =>
    refine ta_pb (ta_leaf _ _) ?_
    rw [BIf_true]
    by_cases h0 : A.length = 0
    · rw [decide_eq_false (show ¬ ((A.length : Nat) : Int) > 0 by omega), BIf_false]
      exact fin w3 A (.inl rfl) hN3 hA3 hB3 hl3 hr3 f03'
    · obtain ⟨A0, a, rfl⟩ : ∃ (A0 : List (Tr 0)) (a : Tr 0), A = A0 ++ [a] := by
        rcases List.eq_nil_or_concat A with rfl | ⟨A0, a, e⟩
        · exact absurd rfl h0
        · exact ⟨A0, a, by rw [e]; exact List.concat_eq_append⟩
      have hAl : (A0 ++ [a]).length = A0.length + 1 := by simp
      rw [decide_eq_true (show (((A0 ++ [a]).length : Nat) : Int) > 0 by omega), BIf_true, NN_mk]
      refine load_slice (i := 1) hN3.a rfl ?_
      rw [subI_i64 (by omega) (by omega), show (((A0 ++ [a]).length : Nat) : Int) - 1 = ((A0.length : Nat) : Int) by omega, NN_mk, Req_iff, Int.toNat_natCast, add_mk, Nat.zero_add]
      have hml : ((A0 ++ [a] ++ c :: B).map (ref 0)).length = d.ks.length + 1 := by rw [List.length_map, hlen]
      refine ⟨by omega, LoadT_any.2 ⟨ref 0 a, ?_, ?_⟩⟩
      · rw [hN3.r.cell (by omega)]
        simp
      refine tas_ptr ?_
      rw [NN_mk]
      have ha : LfM w3 S a := hA3 a (by simp)
      have hab : Lf.b a ∈ bks 0 a := by simp [bks]
      refine store_intro (i := 0) ha.a (by simp) rfl fun w4 b4 f4 z4 => ?_
      have ham : a ∈ A0 ++ [a] ++ c :: B := by simp
      have hda := hdis a ham _ hab
      have halt : Lf.b a < w.heap.size := (hM a ham).lt hab
      have hkeep : ∀ x : Tr 0, Lf.b a ∉ bks 0 x → Mm w3 S 0 x → Mm w4 S 0 x := fun x hb h => h.fr f4 fun b hb' e => hb (by rw [← show b = Lf.b a from e]; exact hb')
      have haA0 : ∀ x ∈ A0, Lf.b a ∉ bks 0 x := fun x hx hb => by
        rw [List.flatMap_append] at nA
        exact (List.nodup_append.1 nA).2.2 _ (List.mem_flatMap.2 ⟨x, hx, hb⟩) (Lf.b a) (by simpa using hab) rfl
      have haB : ∀ x ∈ B, Lf.b a ∉ bks 0 x := fun x hx hb => nA' (Lf.b a) (List.mem_flatMap.2 ⟨a, by simp, hab⟩) (Lf.b a) (List.mem_append_right _ (List.mem_flatMap.2 ⟨x, hx, hb⟩)) rfl
      have halr : Lf.b a ∉ bks 0 l ++ bks 0 r := fun hb => by
        rcases sp.bk _ hb with h | h
        · exact hAc a (by simp) _ hab h
        · omega
      refine fin w4 (A0 ++ [tl { (show Lf from a) with p := some (Lf.b l) }]) (.inr ⟨A0, a, rfl, rfl⟩) (hN3.fr f4 (fun e => hda.1 e.symm) (fun e => hda.2.1 e.symm) fun e => hda.2.2 e.symm) (fun x hx => ?_) (fun x hx => hkeep x (haB x hx) (hB3 x hx)) (hkeep l (fun h => halr (List.mem_append_left _ h)) hl3) (hkeep r (fun h => halr (List.mem_append_right _ h)) hr3)
        (f03'.trans f4 fun b hb => .inl ?_)
      · rcases List.mem_append.1 hx with hx | hx
        · exact hkeep x (haA0 x hx) (hA3 x (List.mem_append_left _ hx))
        · rw [List.mem_singleton] at hx
          subst hx
          have hbq : Lf.b a ≠ Lf.q a := fun e => by
            obtain ⟨us, hu⟩ := ha.q.blk'
            have := ha.a
            rw [show (show Lf from a).b = (show Lf from a).q from e] at this
            exact absurd (this.unique hu).1 (by decide)
          exact (⟨b4, ha.q.fr f4 fun b hb e => by rw [bl_q.1 hb] at e; exact hbq (Eq.symm e)⟩ : LfM w4 S { (show Lf from a) with p := some (Lf.b l) })
      · have hb : b = Lf.b a := hb
        show b ∈ d.b :: d.q :: d.r :: (A0 ++ [a] ++ c :: B).flatMap (bks 0)
        simp only [List.mem_cons, List.mem_flatMap]
        exact .inr (.inr (.inr ⟨a, by simp, by rw [hb]; exact hab⟩))
  | n + 1, A, B, c, l, r, hN, hM, hnd, hIn, hs, hnk, hne, hlen, hpos, hk, sp, hN3, hA3, hB3, hl3, hr3, fin, f03', hnd1, hX, hAc, hdis, hlen2, hndc, nA, nA', f03, nC, nB, nC', nCB, hBc, hcm, hlr =>
    refine ta_pb (ta_node _ _) ?_
    rw [BIf_false]
    exact fin w3 A rfl hN3 hA3 hB3 hl3 hr3 f03'
end
end Go.Proofs.Ytofnapddoiodkaa.E
