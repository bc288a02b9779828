/-
  Plus trees: the whole tree; a key is put into it.
-/
import Derived.Test.YtofnapddoiodkaaPtT
namespace Go.Proofs.Ytofnapddoiodkaa.E
open Go
set_option linter.unusedSimpArgs false
set_option linter.unusedVariables false
set_option maxRecDepth 100000
set_option maxHeartbeats 4000000

section
variable {w : World} {S : Nat}
theorem F25_spec {k : Value → W} (hS : S < 4000000000) (hk : ∀ w' b q r, Blk w' b 88 [.slice (some ⟨q, 0, none⟩) 0 S, .slice (some ⟨r, 0, none⟩) 0 (S + 1)] → Own w' 48 (some ⟨q, 0, none⟩) 0 S [] → Own w' 62 (some ⟨r, 0, none⟩) 0 (S + 1) [] →
      w.heap.size ≤ b → w.heap.size ≤ q → w.heap.size ≤ r → [b, q, r].Nodup → Fr (fun _ => False) w w' → k (.pointer (some ⟨b, 0, none⟩)) w') : F25 k ((S : Nat) : Int) w := by
  unfold F25
  rw [addI_u64 (by omega) (by omega), show ((S : Nat) : Int) + 1 = ((S + 1 : Nat) : Int) by omega]
  refine drw_intro fun w1 f1 z1 => ⟨?_, ?_⟩
  · refine mk48 0 S (by omega) (by omega) fun q w2 e2 f2 o2 b2 z2 => ?_
    refine mk62 0 (S + 1) (by omega) (by omega) fun r w3 e3 f3 o3 b3 z3 => ?_
    refine new_intro fun b w4 e4 b4 f4 z4 => ?_
    refine hk w4 b q r b4 ((o2.fr f3 fun _ _ => id).fr f4 fun _ _ => id) (o3.fr f4 fun _ _ => id) (by omega) (by omega) (by omega) ?_ (((f1.trans f2 fun _ h => h.elim).trans f3 fun _ h => h.elim).trans f4 fun _ h => h.elim)
    simp only [List.nodup_cons, List.mem_cons, List.not_mem_nil, or_false, not_false_eq_true, List.nodup_nil, and_true, not_or]
    omega
  · refine mk62 0 (S + 1) (by omega) (by omega) fun r w2 e2 f2 o2 b2 z2 => ?_
    refine mk48 0 S (by omega) (by omega) fun q w3 e3 f3 o3 b3 z3 => ?_
    refine new_intro fun b w4 e4 b4 f4 z4 => ?_
    refine hk w4 b q r b4 (o3.fr f4 fun _ _ => id) ((o2.fr f3 fun _ _ => id).fr f4 fun _ _ => id) (by omega) (by omega) (by omega) ?_ (((f1.trans f2 fun _ h => h.elim).trans f3 fun _ h => h.elim).trans f4 fun _ h => h.elim)
    simp only [List.nodup_cons, List.mem_cons, List.not_mem_nil, or_false, not_false_eq_true, List.nodup_nil, and_true, not_or]
    omega
/-- The root is split. -/
theorem F20_root {k : Value → W} {n : Nat} {c : Tr n} {lo hi : Option Int} {tb : Nat} {us : List Value}
    (hT : Blk w tb 64 us) (hT1 : us[1]? = some (.int .u64 ((S : Nat) : Int))) (h3 : 3 ≤ S) (hS : S < 4000000000) (hM : Mm w S n c) (hnd : (bks n c).Nodup) (hIn : In n lo hi c) (hs : Sm1 S n c) (hnk : nk n c = S) (hne : Ne (lfs n c))
    (hk : ∀ w' d l r m, Spl S w.heap.size n c l r m lo hi → d.ks = [m] → NdM w' S d [ref n l, ref n r] → Mm w' S n l → Mm w' S n r → w.heap.size ≤ d.b → w.heap.size ≤ d.q → w.heap.size ≤ d.r → (bks (n + 1) (d, [l, r])).Nodup →
      Fr (fun b => b ∈ bks n c) w w' → k (.iface 83 (.pointer (some ⟨d.b, 0, none⟩))) w') :
    F20 k (some ⟨tb, 0, none⟩) .nilIface (ref n c) w := by
  have hTn : tb ∉ bks n c := fun h => by
    have := hM.ty tb _ _ h hT
    simp at this
  unfold F20
  refine drw_intro fun w1 f1 z1 => ?_
  rw [NN_mk]
  refine load_int (i := 1) (hT.fr f1 id) hT1 ?_
  refine ⟨fun w' => meth_ok c w', ?_⟩
  refine full_spec (by omega) (hM.fr0 f1) (by omega) ?_
  rw [hnk, decide_eq_true (Nat.le_refl S), Bool.not_true, BIf_false]
  refine split_spec h3 (by omega) (hM.fr0 f1) hnd hIn hs hnk hne fun w2 l r m hl hr sp f2 => ?_
  rw [z1] at sp
  have f02 : Fr (fun b => b ∈ bks n c) w w2 := (f1.mono fun _ h => h.elim).trans f2 fun b hb => .inl hb
  rw [IfaceNil_nil, BIf_true, NN_mk]
  refine load_int (i := 1) (hT.fr f02 hTn) hT1 ?_
  refine F25_call (F25_spec hS fun w3 b q r' b3 o3 p3 hb hq hr' hd f3 => back_ptr ?_)
  have hz := f02.size
  simp only [List.nodup_cons, List.mem_cons, List.not_mem_nil, or_false, not_false_eq_true, List.nodup_nil, and_true, not_or] at hd
  obtain ⟨⟨d1, d2⟩, d3⟩ := hd
  rw [NN_mk]
  refine load_slice (i := 0) b3 rfl ?_
  obtain ⟨i48, g1, g2, g3, g4⟩ := inf48
  refine append_room und76 g1 g2 g3 rfl o3 (v := kv m) rfl rfl (by omega) fun w4 f4 o4 => ?_
  have b4 := b3.fr f4 d1
  have p4 := p3.fr f4 fun x hx => by rw [bl_q.1 hx]; exact fun e => d3 e.symm
  rw [NN_mk]
  refine store_intro (i := 0) b4 (by simp) rfl fun w5 b5 f5 z5 => ?_
  have o5 := o4.fr f5 fun x hx => by rw [bl_q.1 hx]; exact fun e => d1 e.symm
  have p5 := p4.fr f5 fun x hx => by rw [bl_q.1 hx]; exact fun e => d2 e.symm
  rw [NN_mk]
  refine load_slice (i := 1) b5 rfl ?_
  obtain ⟨i62, t1, t2, t3, t4⟩ := inf62
  refine append_room und86 t1 t2 t3 rfl p5 (v := ref n l) (ref_one l) (ref_cells l) (by omega) fun w6 f6 p6 => ?_
  have b6 := b5.fr f6 d2
  have o6 := o5.fr f6 fun x hx => by rw [bl_q.1 hx]; exact d3
  rw [NN_mk]
  refine store_intro (i := 1) b6 (by simp) rfl fun w7 b7 f7 z7 => ?_
  have o7 := o6.fr f7 fun x hx => by rw [bl_q.1 hx]; exact fun e => d1 e.symm
  have p7 := p6.fr f7 fun x hx => by rw [bl_q.1 hx]; exact fun e => d2 e.symm
  rw [NN_mk]
  refine load_slice (i := 1) b7 rfl ?_
  refine append_room und86 t1 t2 t3 rfl p7 (v := ref n r) (ref_one r) (ref_cells r) (by omega) fun w8 f8 p8 => ?_
  have b8 := b7.fr f8 d2
  have o8 := o7.fr f8 fun x hx => by rw [bl_q.1 hx]; exact d3
  rw [NN_mk]
  refine store_intro (i := 1) b8 (by simp) rfl fun w9 b9 f9 z9 => ?_
  have o9 := o8.fr f9 fun x hx => by rw [bl_q.1 hx]; exact fun e => d1 e.symm
  have p9 := p8.fr f9 fun x hx => by rw [bl_q.1 hx]; exact fun e => d2 e.symm
  have f39 : Fr (fun x => x = b ∨ x = q ∨ x = r') w3 w9 := (((((f4.mono fun x h => .inl (.inr (.inl h))).trans f5 fun x h => .inl (.inl h)).trans f6 fun x h => .inl (.inr (.inr h))).trans f7 fun x h => .inl (.inl h)).trans f8 fun x h => .inl (.inr (.inr h))).trans f9 fun x h => .inl (.inl h)
  have hbl : ∀ x ∈ bks n l ++ bks n r, x < w2.heap.size := fun x hx => by
    rcases List.mem_append.1 hx with h | h
    · exact hl.lt h
    · exact hr.lt h
  have keep : ∀ y : Tr n, (∀ x ∈ bks n y, x < w2.heap.size) → Mm w2 S n y → Mm w9 S n y := fun y hy h => (h.fr0 f3).fr f39 fun x hx e => by
    have := hy x hx
    rcases e with e | e | e <;> omega
  refine hk w9 ⟨b, q, r', [m]⟩ l r m sp rfl ⟨b9, o9, p9⟩ (keep l (fun x hx => hbl x (List.mem_append_left _ hx)) hl) (keep r (fun x hx => hbl x (List.mem_append_right _ hx)) hr) (by show _ ≤ b; omega) (by show _ ≤ q; omega) (by show _ ≤ r'; omega) ?_ ?_
  · show (b :: q :: r' :: [l, r].flatMap (bks n)).Nodup
    have e : [l, r].flatMap (bks n) = bks n l ++ bks n r := by simp
    rw [e]
    have : ([b, q, r'] ++ (bks n l ++ bks n r)).Nodup := by
      refine List.nodup_append.2 ⟨?_, sp.nd, fun x hx y hy => ?_⟩
      · simp only [List.nodup_cons, List.mem_cons, List.not_mem_nil, or_false, not_false_eq_true, List.nodup_nil, and_true, not_or]
        exact ⟨⟨d1, d2⟩, d3⟩
      · have := hbl y hy
        simp only [List.mem_cons, List.not_mem_nil, or_false] at hx
        rcases hx with rfl | rfl | rfl <;> omega
    exact this
  · refine (f02.trans f3 fun _ h => h.elim).trans f39 fun x hx => .inr ?_
    rcases hx with e | e | e <;> omega
end

/-! ## The whole tree -/
structure TreeP (w : World) (tb S n : Nat) (t : Tr n) : Prop where
  hd : Blk w tb 64 [ref n t, .int .u64 ((S : Nat) : Int), .int .u64 (((els n t).length : Nat) : Int)]
  mm : Mm w S n t
  nd : (bks n t).Nodup
  inn : In n none none t
  sm : Sm S n t
  ne : n = 0 ∨ Ne (lfs n t)
  fw : Fw [] (lfs n t)
  S3 : 3 ≤ S
  Sl : S < 1000
/-- A plus tree that holds these words, in the blocks F. -/
def PTree (w : World) (tb S : Nat) (L : List KV) (F : Nat → Prop) : Prop := ∃ n t, TreeP w tb S n t ∧ els n t = L ∧ ∀ b, F b ↔ b = tb ∨ b ∈ bks n t
theorem TreeP.fr {w w' : World} {tb S n : Nat} {t : Tr n} {G : Nat → Prop} (h : TreeP w tb S n t) (f : Fr G w w') (h1 : ¬ G tb) (h2 : ∀ b ∈ bks n t, ¬ G b) : TreeP w' tb S n t :=
  ⟨h.hd.fr f h1, h.mm.fr f h2, h.nd, h.inn, h.sm, h.ne, h.fw, h.S3, h.Sl⟩
theorem PTree.fr {w w' : World} {tb S : Nat} {L : List KV} {F G : Nat → Prop} (h : PTree w tb S L F) (f : Fr G w w') (hG : ∀ b, F b → ¬ G b) : PTree w' tb S L F := by
  obtain ⟨n, t, h, e, hF⟩ := h
  exact ⟨n, t, h.fr f (hG _ ((hF _).2 (.inl rfl))) fun b hb => hG b ((hF b).2 (.inr hb)), e, hF⟩
theorem PTree.ty {w : World} {tb S : Nat} {L : List KV} {F : Nat → Prop} (h : PTree w tb S L F) : Tys F w [64, 78, 88, 48, 62] := fun b u us hb hu => by
  obtain ⟨n, t, h, e, hF⟩ := h
  rcases (hF b).1 hb with rfl | hb
  · rw [(hu.unique h.hd).1]; decide
  · exact List.mem_cons_of_mem _ (h.mm.ty b u us hb hu)
theorem PTree.lt {w : World} {tb S : Nat} {L : List KV} {F : Nat → Prop} (h : PTree w tb S L F) {b : Nat} (hb : F b) : b < w.heap.size := by
  obtain ⟨n, t, h, e, hF⟩ := h
  rcases (hF b).1 hb with rfl | hb
  · exact h.hd.lt
  · exact h.mm.lt hb
theorem PTree.srt {w : World} {tb S : Nat} {L : List KV} {F : Nat → Prop} (h : PTree w tb S L F) : Srt L := by
  obtain ⟨n, t, h, e, hF⟩ := h
  rw [← e]; exact h.inn.srt
theorem IfaceNil_ref {n : Nat} {t : Tr n} {f : Bool → W} : IfaceNil (ref n t) f = f false := by
  cases n <;> rfl
theorem nnv_ref {n : Nat} {t : Tr n} : nnv (ref n t) = true := by
  cases n <;> rfl
theorem F15_J1_spec {k : Value → W} {w : World} {S n tb : Nat} {t : Tr n} (hT : Blk w tb 64 [ref n t, .int .u64 ((S : Nat) : Int), .int .u64 (((els n t).length : Nat) : Int)]) (hM : Mm w S n t) (hnd : (bks n t).Nodup) (hIn : In n none none t) (hs : Sm1 S n t) (hne : Ne (lfs n t)) (hf : Fw [] (lfs n t)) (h3 : 3 ≤ S) (hS : S < 1000)
    (hk : ∀ w' F', PTree w' tb S (els n t) F' → Fr (fun b => b = tb ∨ b ∈ bks n t) w w' → (∀ b, F' b → (b = tb ∨ b ∈ bks n t) ∨ w.heap.size ≤ b) → k (.tuple #[]) w') : F15_J1 k (some ⟨tb, 0, none⟩) w := by
  unfold F15_J1
  refine drw_intro fun w1 f1 z1 => ?_
  have hT1 := hT.fr f1 id
  have hM1 := hM.fr0 f1
  rw [NN_mk]
  refine load_any (i := 0) hT1 rfl ?_
  rw [NN_mk]
  refine load_int (i := 1) hT1 rfl ⟨nnv_ref, ?_⟩
  have hnk := hs.nk
  refine full_spec (by omega) hM1 (by omega) ?_
  refine chk (i := 0) hT1 rfl ?_
  by_cases hfull : S ≤ nk n t
  · rw [decide_eq_true hfull, BIf_true, NN_mk]
    refine load_any (i := 0) hT1 rfl ?_
    refine F20_call (F20_root hT1 rfl h3 (by omega) hM1 hnd hIn hs (by omega) hne fun w2 d l r m sp hd hN hl hr h4 h5 h6 hdn f2 => back_any ?_)
    have hTn : tb ∉ bks n t := fun h => by
      have := hM1.ty tb _ _ h hT1
      simp at this
    have hT2 := hT1.fr f2 hTn
    rw [NN_mk]
    refine ⟨rfl, ?_⟩
    refine store_intro (i := 0) hT2 (by simp) rfl fun w3 b3 f3 z3 => ?_
    have hM2 : Mm w2 S (n + 1) (d, [l, r]) := ⟨hN, fun c hc => by
      simp only [List.mem_cons, List.not_mem_nil, or_false] at hc
      rcases hc with rfl | rfl
      · exact hl
      · exact hr⟩
    have e1 : els (n + 1) (d, [l, r]) = els n t := by
      refine (els_succ n _).trans ?_
      show [l, r].flatMap (els n) = _
      rw [← sp.els]; simp
    have el : lfs (n + 1) (d, [l, r]) = lfs n l ++ lfs n r := by
      show [l, r].flatMap (lfs n) = _
      simp
    have eb : bks (n + 1) (d, [l, r]) = [d.b, d.q, d.r] ++ (bks n l ++ bks n r) := by
      show d.b :: d.q :: d.r :: [l, r].flatMap (bks n) = _
      simp
    have htb3 : tb < w1.heap.size := hT1.lt
    have hnew : ∀ b ∈ bks (n + 1) (d, [l, r]), b ∈ bks n t ∨ w1.heap.size ≤ b := fun b hb => by
      rw [eb] at hb
      rcases List.mem_append.1 hb with h | h
      · simp only [List.mem_cons, List.not_mem_nil, or_false] at h
        rcases h with rfl | rfl | rfl
        · exact .inr h4
        · exact .inr h5
        · exact .inr h6
      · exact sp.bk b h
    refine hk w3 (fun b => b = tb ∨ b ∈ bks (n + 1) (d, [l, r])) ⟨n + 1, (d, [l, r]), ⟨?_, hM2.fr f3 fun b hb e => ?_, hdn, ?_, ⟨?_, fun c hc => ?_⟩, .inr ?_, ?_, h3, hS⟩, e1, fun b => Iff.rfl⟩ ?_ fun b hb => ?_
    · rw [e1]; exact b3
    · have e : b = tb := e
      subst e
      rcases hnew b hb with h | h
      · exact hTn h
      · omega
    · show Ch (In n) none none d.ks [l, r]
      rw [hd]; exact Ch.one sp.lo sp.hi sp.inl sp.inr
    · show d.ks.length < S
      rw [hd]; simp; omega
    · have hc : c ∈ [l, r] := hc
      simp only [List.mem_cons, List.not_mem_nil, or_false] at hc
      rcases hc with rfl | rfl
      · exact sp.sl
      · exact sp.sr
    · rw [el, Ne.parts]; exact ⟨sp.nel, sp.ner⟩
    · rw [el]; exact sp.wk.1 _ hf
    · exact ((f1.mono fun _ h => h.elim).trans f2 fun b hb => .inl (.inr hb)).trans f3 fun b hb => .inl (.inl hb)
    · rcases hb with h | h
      · exact .inl (.inl h)
      · rcases hnew b h with h | h
        · exact .inl (.inr h)
        · exact .inr (by omega)
  · rw [decide_eq_false hfull, BIf_false]
    exact hk w1 _ ⟨n, t, ⟨hT1, hM1, hnd, hIn, hs.sm (by omega), .inr hne, hf, h3, hS⟩, rfl, fun b => Iff.rfl⟩ (f1.mono fun _ h => h.elim) fun b hb => .inl hb
theorem F15_spec {k : Value → W} {w : World} {S tb : Nat} {L : List KV} {F : Nat → Prop} {x : KV} (h : PTree w tb S L F) (hl : L.length < 4000000000)
    (hk : ∀ w' F', PTree w' tb S (puts x L) F' → Fr F w w' → (∀ b, F' b → F b ∨ w.heap.size ≤ b) → k (.tuple #[]) w') : F15 k (some ⟨tb, 0, none⟩) (kv x) w := by
  obtain ⟨n, t, h, e, hF⟩ := h
  have hs := h.inn.srt
  unfold F15
  rw [NN_mk]
  refine load_any (i := 0) h.hd rfl ?_
  rw [IfaceNil_ref, BIf_false, NN_mk]
  refine load_any (i := 0) h.hd rfl ?_
  have hTn : tb ∉ bks n t := fun hb => by
    have := h.mm.ty tb _ _ hb h.hd
    simp at this
  have hS := h.Sl
  refine ins_spec h.S3 (by omega) h.mm h.nd h.inn h.sm h.ne (geB_none _) (ltB_none _) h.hd rfl fun w1 t' hM hP f1 => ?_
  have hT1 := h.hd.fr f1 hTn
  have hTn' : tb ∉ bks n t' := fun hb => by
    rcases hP.bk tb hb with h' | h'
    · exact hTn h'
    · have := h.hd.lt; omega
  have er : ref n t' = ref n t := by
    have := hP.rt
    match n, t, t', this with
    | 0, c, c', h => show Value.iface 68 (.pointer (some ⟨Lf.b c', 0, none⟩)) = .iface 68 (.pointer (some ⟨Lf.b c, 0, none⟩)); rw [show Lf.b c' = Lf.b c from h]
    | n + 1, c, c', h => show Value.iface 83 (.pointer (some ⟨c'.1.b, 0, none⟩)) = .iface 83 (.pointer (some ⟨c.1.b, 0, none⟩)); rw [show c'.1.b = c.1.b from h]
  have hlen := puts_len' (q := x) hs
  have fin : ∀ w2, Fr (fun b => b = tb) w1 w2 → Blk w2 tb 64 [ref n t', .int .u64 ((S : Nat) : Int), .int .u64 (((els n t').length : Nat) : Int)] → F15_J1 k (some ⟨tb, 0, none⟩) w2 := fun w2 f2 hT2 => by
    have f02 : Fr F w w2 := (f1.mono fun b hb => .inl ((hF b).2 (.inr hb))).trans f2 fun b hb => .inl ((hF b).2 (.inl hb))
    refine F15_J1_spec hT2 (hM.fr f2 fun b hb e => hTn' (by rw [← show b = tb from e]; exact hb)) hP.nd hP.inn hP.sm hP.ne (hP.wk.1 _ h.fw) h.S3 h.Sl fun w3 F3 hp f3 hF3 => ?_
    have hb' : ∀ b, (b = tb ∨ b ∈ bks n t') → F b ∨ w.heap.size ≤ b := fun b hb => by
      rcases hb with hb | hb
      · exact .inl ((hF b).2 (.inl hb))
      · rcases hP.bk b hb with h | h
        · exact .inl ((hF b).2 (.inr h))
        · exact .inr h
    rw [hP.els, e] at hp
    refine hk w3 F3 hp (f02.trans f3 hb') fun b hb => ?_
    rcases hF3 b hb with h | h
    · exact hb' b h
    · have := f02.size; exact .inr (by omega)
  rw [e] at hlen
  cases hh : has x.1 (els n t) with
  | true =>
    rw [Bool.not_true, BIf_false]
    refine fin w1 (Fr.refl _ _) ?_
    rw [e] at hh
    rw [hP.els, e, hlen, if_pos hh, er]
    rw [e] at hT1
    exact hT1
  | false =>
    rw [Bool.not_false, BIf_true, NN_mk]
    refine load_int (i := 2) hT1 rfl ?_
    refine store_intro (i := 2) hT1 (by simp) rfl fun w2 b2 f2 z2 => ?_
    refine fin w2 f2 ?_
    rw [e] at hh b2
    rw [hP.els, e, hlen, if_neg (by rw [hh]; exact Bool.false_ne_true), er]
    rw [addI_u64 (by omega) (by omega)] at b2
    exact b2
end Go.Proofs.Ytofnapddoiodkaa.E
