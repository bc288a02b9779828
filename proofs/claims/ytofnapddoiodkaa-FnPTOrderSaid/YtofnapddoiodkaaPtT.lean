/-
  Plus trees: insertion, the walk.
-/
import Derived.Test.YtofnapddoiodkaaPtS
namespace Go.Proofs.Ytofnapddoiodkaa.E
open Go
set_option linter.unusedSimpArgs false
set_option linter.unusedVariables false
set_option maxRecDepth 100000
set_option maxHeartbeats 4000000

/-- To which child a key leads. -/
def kidx (k : Int) (ks : List KV) : Nat := (ks.filter fun x => decide (x.1 ≤ k)).length
theorem kidx_eq (k : Int) (ks : List KV) : kidx k ks = pos (k + 1) ks := by
  unfold kidx pos les
  congr 1
  apply List.filter_congr
  intro x _
  exact decide_eq_decide.2 (by omega)
theorem kidx_cases {q : KV} {ks : List KV} (s : Srt ks) :
    (pos q.1 ks = ks.length ∧ kidx q.1 ks = ks.length) ∨ (∃ y, ks[pos q.1 ks]? = some y ∧ y.1 = q.1 ∧ kidx q.1 ks = pos q.1 ks + 1) ∨ (∃ y, ks[pos q.1 ks]? = some y ∧ q.1 < y.1 ∧ kidx q.1 ks = pos q.1 ks) := by
  obtain ⟨h1, h2⟩ := pos_cases (q := q) s
  rw [kidx_eq]
  rcases h2 with ⟨e, h, _⟩ | ⟨y, hy, e, _⟩ | ⟨y, hy, h, hn, _⟩
  · refine .inl ⟨e, ?_⟩
    refine pos_eq s (Nat.le_refl _) (fun j x hx _ => ?_) fun j x hx hj => ?_
    · have := h x (List.mem_of_getElem? hx); omega
    · have := (List.getElem?_eq_some_iff.1 hx).1; omega
  · refine .inr (.inl ⟨y, hy, e, ?_⟩)
    have hl := (List.getElem?_eq_some_iff.1 hy).1
    refine pos_eq s hl (fun j x hx hj => ?_) fun j x hx hj => ?_
    · by_cases ej : j = pos q.1 ks
      · rw [ej, hy] at hx; cases hx; omega
      · have := srt_lt s hx hy (by omega); omega
    · have := srt_lt s hy hx (by omega); omega
  · refine .inr (.inr ⟨y, hy, h, ?_⟩)
    have hl := (List.getElem?_eq_some_iff.1 hy).1
    refine pos_eq s (Nat.le_of_lt hl) (fun j x hx hj => ?_) fun j x hx hj => ?_
    · have := (h1 j x hx).1 hj; omega
    · have : ¬ x.1 < q.1 := fun h => by have := (h1 j x hx).2 h; omega
      have := hn x (List.mem_of_getElem? hx)
      omega
theorem mid_get {α : Type} {A B : List α} {c : α} : (A ++ c :: B)[A.length]? = some c := by simp
theorem ins_spec {S tb : Nat} {us : List Value} {x : KV} (h3 : 3 ≤ S) (hS : S < 4000000000) : ∀ {n : Nat} {t : Tr n} {lo hi : Option Int} {f : Bool → W} {w : World}, Mm w S n t → (bks n t).Nodup → In n lo hi t → Sm S n t → (n = 0 ∨ Ne (lfs n t)) → geB lo x.1 → ltB hi x.1 →
    Blk w tb 64 us → us[1]? = some (.int .u64 ((S : Nat) : Int)) →
    (∀ w' t', Mm w' S n t' → InsP S w.heap.size n t t' x lo hi → Fr (fun b => b ∈ bks n t) w w' → f (!has x.1 (els n t)) w') →
    NextT Try.prog (callMethod (ref n t) "given.example/pub-spokeshave/pub/godatastructures/btree/plus.insert" [.pointer (some ⟨tb, 0, none⟩), kv x].toArray) (.s (.one .bool)) f w
  | 0, l, lo, hi, f, w, hM, hnd, hIn, hs, hne, g1, g2, hT, hT1, hf => by
    have hL : LfM w S l := hM
    have hs : (Lf.ks l).length < S := hs
    have hIn' := (show Srt (Lf.ks l) ∧ ∀ x ∈ Lf.ks l, geB lo x.1 ∧ ltB hi x.1 from hIn)
    refine NextT_enter (meth_i68 _ _ _ w) (F19_calls (F19_spec hL hIn'.1 hs (by omega) fun w' h' f' => back_bool ?_))
    have := hf w' (tl { (show Lf from l) with ks := puts x (Lf.ks l) }) h' (leaf_ins hIn hs g1 g2 hnd) (f'.mono fun b hb => .inl (by
      rcases hb with e | e
      · rw [show b = Lf.b l from e]; simp [bks]
      · rw [show b = Lf.q l from e]; simp [bks]))
    rw [els_zero] at this
    exact this
  | n + 1, (d, cs), lo, hi, f, w, hM, hnd, hIn, hs, hne, g1, g2, hT, hT1, hf => by
    have hCh : Ch (In n) lo hi d.ks cs := hIn
    obtain ⟨hks, _⟩ := hCh.keys
    have hcl := hCh.len
    have hs1 : d.ks.length < S := hs.1
    have hne : Ne (lfs (n + 1) (d, cs)) := hne.resolve_left (by omega)
    obtain ⟨A, c, B, lo', hi', rfl, hAl, hIc, c1, c2, hA, hB, k1, k2, k3, _⟩ := hCh.at (k := x.1) (E := els n) (fun l h a ha => In.els ha) g1 g2
    have hAl : A.length = kidx x.1 d.ks := hAl
    obtain ⟨hN, hC⟩ := hM
    have hN : NdM w S d ((A ++ c :: B).map (ref n)) := hN
    have hC : ∀ y ∈ A ++ c :: B, Mm w S n y := hC
    have hsC : ∀ y ∈ A ++ c :: B, Sm S n y := hs.2
    have hcm : c ∈ A ++ c :: B := by simp
    have hml : ((A ++ c :: B).map (ref n)).length = d.ks.length + 1 := by rw [List.length_map]; exact hcl
    have hget : ((A ++ c :: B).map (ref n))[A.length]? = some (ref n c) := by rw [List.getElem?_map, mid_get]; rfl
    have hM' : Mm w S (n + 1) (d, A ++ c :: B) := ⟨hN, hC⟩
    -- behind the choice of the child
    have fin : ∀ w1, Fr (fun _ => False) w w1 → F52_J1 (fun v => Back (.s (.one .bool)) f (.returned v)) (some ⟨d.b, 0, none⟩) (some ⟨tb, 0, none⟩) (kv x) (ref n c) w1 := fun w1 f1 => by
      have hnd1 := hnd
      rw [bks_mid] at hnd1
      obtain ⟨_, nX, _⟩ := List.nodup_append.1 hnd1
      obtain ⟨_, nY, _⟩ := List.nodup_append.1 nX
      obtain ⟨nC, _, _⟩ := List.nodup_append.1 nY
      have hnc : n = 0 ∨ Ne (lfs n c) := .inr (by
        rw [lfs_mid, Ne.parts, Ne.parts] at hne; exact hne.2.1)
      unfold F52_J1
      refine ins_spec h3 hS ((hC c hcm).fr0 f1) nC hIc (hsC c hcm) hnc c1 c2 (hT.fr f1 id) hT1 fun w2 c' hc' hP f2 => ?_
      have hcb : ∀ b ∈ bks n c, b ∈ bks (n + 1) (d, A ++ c :: B) := fun b hb => by rw [bks_mid]; simp [hb]
      have hPb : InsP S w.heap.size n c c' x lo' hi' := ⟨hP.rt, hP.els, hP.inn, hP.sm, hP.sm', hP.ne, hP.wk, hP.nd, fun b hb => (hP.bk b hb).imp id fun h => Nat.le_trans f1.size h⟩
      have f02 : Fr (fun b => b ∈ bks n c) w w2 := (f1.mono fun _ h => h.elim).trans f2 fun b hb => .inl hb
      have f02' : Fr (fun b => b ∈ bks (n + 1) (d, A ++ c :: B)) w w2 := f02.mono fun b hb => .inl (hcb b hb)
      have hsz : w.heap.size ≤ w2.heap.size := f02.size
      have hdn : ∀ b ∈ [d.b, d.q, d.r], b ∉ bks n c := fun b hb hc => (List.nodup_append.1 hnd1).2.2 b hb b (by simp [hc]) rfl
      have hAc : ∀ y ∈ A, ∀ b ∈ bks n y, b ∉ bks n c := fun y hy b hb hc => (List.nodup_append.1 nX).2.2 b (List.mem_flatMap.2 ⟨y, hy, hb⟩) b (by simp [hc]) rfl
      have hBc : ∀ y ∈ B, ∀ b ∈ bks n y, b ∉ bks n c := fun y hy b hb hc => (List.nodup_append.1 nY).2.2 b hc b (List.mem_flatMap.2 ⟨y, hy, hb⟩) rfl
      have hrc : ref n c' = ref n c := by
        have := hP.rt
        match n, c, c', this with
        | 0, c, c', h => show Value.iface 68 (.pointer (some ⟨Lf.b c', 0, none⟩)) = .iface 68 (.pointer (some ⟨Lf.b c, 0, none⟩)); rw [show Lf.b c' = Lf.b c from h]
        | n + 1, c, c', h => show Value.iface 83 (.pointer (some ⟨c'.1.b, 0, none⟩)) = .iface 83 (.pointer (some ⟨c.1.b, 0, none⟩)); rw [show c'.1.b = c.1.b from h]
      have hN2 : NdM w2 S d ((A ++ c' :: B).map (ref n)) := by
        have : (A ++ c' :: B).map (ref n) = (A ++ c :: B).map (ref n) := by simp [hrc]
        rw [this]
        exact hN.fr f02 (hdn _ (by simp)) (hdn _ (by simp)) (hdn _ (by simp))
      have hC2 : ∀ y ∈ A ++ c' :: B, Mm w2 S n y := fun y hy => by
        rcases List.mem_append.1 hy with h | h
        · exact (hC y (List.mem_append_left _ h)).fr f02 (hAc y h)
        · rcases List.mem_cons.1 h with rfl | h
          · exact hc'
          · exact (hC y (by simp [h])).fr f02 (hBc y h)
      have hhas : has x.1 (els (n + 1) (d, A ++ c :: B)) = has x.1 (els n c) := by
        rw [els_mid]
        exact has_mid (fun y hy => by obtain ⟨a, ha, hy⟩ := List.mem_flatMap.1 hy; exact hA a ha y hy) fun y hy => by obtain ⟨a, ha, hy⟩ := List.mem_flatMap.1 hy; exact hB a ha y hy
      cases hh : has x.1 (els n c) with
      | true =>
        rw [Bool.not_true, Bool.not_false, BIf_true]
        have := hf w2 (d, A ++ c' :: B) ⟨hN2, hC2⟩ (node_ins hs1 hA hB hsC hne hnd (fun b hb => hM'.lt hb) hPb (k1 c' hP.inn) (.inr hh)) f02'
        rw [hhas, hh] at this
        exact back_bool this
      | false =>
        rw [Bool.not_false, Bool.not_true, BIf_false]
        refine drw_intro fun w3 f3 z3 => ?_
        have hTn : tb ∉ bks n c := fun h => by
          have := (hC c hcm).ty tb _ _ h hT
          simp at this
        have hT3 := (hT.fr f02 hTn).fr f3 id
        rw [NN_mk]
        refine load_int (i := 1) hT3 hT1 ?_
        rw [← hrc]
        refine ⟨fun w' => meth_ok c' w', ?_⟩
        have hc3 := hc'.fr0 f3
        have hnk := hP.sm.nk
        refine full_spec (by omega) hc3 (by omega) ?_
        by_cases hfull : S ≤ nk n c'
        · rw [decide_eq_true hfull, BIf_true]
          refine F20_call ?_
          have hnd' : (bks (n + 1) (d, A ++ c' :: B)).Nodup := (node_ins (S := S + 1) (Nat.lt_succ_of_lt hs1) hA hB (fun y hy => sm_mono (hsC y hy)) hne hnd (fun b hb => hM'.lt hb) ⟨hPb.rt, hPb.els, hPb.inn, sm1_mono hPb.sm, fun h => sm_mono (hPb.sm' h), hPb.ne, hPb.wk, hPb.nd, hPb.bk⟩ (k1 c' hP.inn) (.inl (by omega))).nd
          refine F20_par hT3 hT1 h3 hS (hN2.fr f3 id id id) (fun y hy => (hC2 y hy).fr0 f3) hnd' hP.inn hP.sm (by omega) hP.ne hks hs1 (by simpa using hcl) k3 fun w4 A' l r m hF sp hN4 hC4 f4 => back_any ?_
          have := hf w4 ({ d with ks := d.ks.take A.length ++ m :: d.ks.drop A.length }, A' ++ l :: r :: B) ⟨hN4, hC4⟩ (node_ins2 hs1 hA hB hsC hne hnd (fun b hb => hM'.lt hb) hPb sp (by rw [z3]; exact hsz) hF.props hh fun l r m => k2 l r m) ?_
          · rw [hhas, hh] at this
            exact back_bool this
          · refine (f02'.trans f3 fun _ h => h.elim).trans f4 fun b hb => ?_
            rw [bks_mid] at hb ⊢
            simp only [List.mem_append] at hb ⊢
            rcases hb with h | h | h | h
            · exact .inl (.inl h)
            · exact .inl (.inr (.inl h))
            · rcases hPb.bk b h with h | h
              · exact .inl (.inr (.inr (.inl h)))
              · exact .inr h
            · exact .inl (.inr (.inr (.inr h)))
        · rw [decide_eq_false hfull, BIf_false]
          have := hf w3 (d, A ++ c' :: B) ⟨hN2.fr f3 id id id, fun y hy => (hC2 y hy).fr0 f3⟩ (node_ins hs1 hA hB hsC hne hnd (fun b hb => hM'.lt hb) hPb (k1 c' hP.inn) (.inl (by omega))) (f02'.trans f3 fun _ h => h.elim)
          rw [hhas, hh] at this
          exact back_bool this
    refine NextT_enter (meth_i83 _ _ _ w) (F52_calls ?_)
    unfold F52
    refine F26_call (F26_spec (d := d) hN hks (by omega) fun w1 f1 => back_int ?_)
    have hN1 := hN.fr f1 id id id
    rw [NN_mk]
    refine load_slice (i := 0) hN1.a rfl ?_
    have hpl := pos_le x.1 d.ks
    rcases kidx_cases (q := x) hks with ⟨e1, e2⟩ | ⟨y, hy, e1, e2⟩ | ⟨y, hy, e1, e2⟩
    · rw [e1, show (((d.ks.length : Nat) : Int) == ((d.ks.length : Nat) : Int)) = true from beq_self_eq_true _, BIf_true]
      refine drw_intro fun w2 f2 z2 => ?_
      have hN2 := hN1.fr f2 id id id
      rw [NN_mk]
      refine load_slice (i := 1) hN2.a rfl ?_
      rw [NN_mk]
      refine load_slice (i := 1) hN2.a rfl ?_
      rw [hml, subI_i64 (by omega) (by omega), show ((d.ks.length + 1 : Nat) : Int) - 1 = ((d.ks.length : Nat) : Int) by omega, NN_mk, Req_iff, Int.toNat_natCast, add_mk, Nat.zero_add]
      refine ⟨by omega, LoadT_any.2 ⟨ref n c, ?_, fin w2 (f1.trans f2 fun _ h => h.elim)⟩⟩
      have := hN2.r
      rw [this.cell (by omega), ← e2, ← hAl]; exact hget
    · have hlt : pos x.1 d.ks < d.ks.length := (List.getElem?_eq_some_iff.1 hy).1
      rw [show (((pos x.1 d.ks : Nat) : Int) == ((d.ks.length : Nat) : Int)) = false by rw [beq_eq_false_iff_ne]; omega, BIf_false, NN_mk]
      refine load_slice (i := 0) hN1.a rfl ?_
      rw [NN_mk, Req_iff, Int.toNat_natCast, add_mk, Nat.zero_add]
      refine ⟨by omega, LoadT_any.2 ⟨kv y, by rw [hN1.q.cell hlt, kvs_get, hy]; rfl, ?_⟩⟩
      refine cmpK fun w2 f2 => ?_
      have hN2 := hN1.fr f2 id id id
      have ec : cmpI y.1 x.1 = 0 := by unfold cmpI; rw [if_neg (by omega), if_neg (by omega)]
      rw [ec, show ((0 : Int) == 1) = false from rfl, BIf_false]
      unfold F52_J2
      rw [show ((0 : Int) == 0) = true from rfl, BIf_true, NN_mk]
      refine load_slice (i := 1) hN2.a rfl ?_
      rw [addI_i64 (by omega) (by omega), show ((pos x.1 d.ks : Nat) : Int) + 1 = ((pos x.1 d.ks + 1 : Nat) : Int) by omega, NN_mk, Req_iff, Int.toNat_natCast, add_mk, Nat.zero_add]
      refine ⟨by omega, LoadT_any.2 ⟨ref n c, ?_, fin w2 (f1.trans f2 fun _ h => h.elim)⟩⟩
      rw [hN2.r.cell (by omega), ← e2, ← hAl]; exact hget
    · have hlt : pos x.1 d.ks < d.ks.length := (List.getElem?_eq_some_iff.1 hy).1
      rw [show (((pos x.1 d.ks : Nat) : Int) == ((d.ks.length : Nat) : Int)) = false by rw [beq_eq_false_iff_ne]; omega, BIf_false, NN_mk]
      refine load_slice (i := 0) hN1.a rfl ?_
      rw [NN_mk, Req_iff, Int.toNat_natCast, add_mk, Nat.zero_add]
      refine ⟨by omega, LoadT_any.2 ⟨kv y, by rw [hN1.q.cell hlt, kvs_get, hy]; rfl, ?_⟩⟩
      refine cmpK fun w2 f2 => ?_
      have hN2 := hN1.fr f2 id id id
      have ec : cmpI y.1 x.1 = -1 := by unfold cmpI; rw [if_pos (by omega)]
      rw [ec, show ((-1 : Int) == 1) = false from rfl, BIf_false]
      unfold F52_J2
      rw [show ((-1 : Int) == 0) = false from rfl, BIf_false, NN_mk]
      refine load_slice (i := 1) hN2.a rfl ?_
      rw [NN_mk, Req_iff, add_mk, Nat.zero_add]
      refine ⟨by omega, LoadT_any.2 ⟨ref n c, ?_, fin w2 (f1.trans f2 fun _ h => h.elim)⟩⟩
      rw [hN2.r.cell (by omega), ← e2, ← hAl]; exact hget
end Go.Proofs.Ytofnapddoiodkaa.E
