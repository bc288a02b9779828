/-
  Caches: room is made; items are putI; got; several keys taken out; a new cache.
-/
import Derived.Test.YtmaejciimpnogaaDoorCaM
namespace Go.Proofs.YtmaejciimpnogaaDoor.E
open Go
set_option linter.unusedSimpArgs false
set_option linter.unusedVariables false
set_option maxRecDepth 100000
set_option maxHeartbeats 8000000

/-- What holds of a cache's items at all times. -/
structure OkT (C : Nat) (L : List Cit) : Prop where
  c : C < 1000
  s : ∀ i ∈ L, 0 < i.sz ∧ i.sz ≤ C
  t : tot L ≤ C
theorem tot_sub {L L' : List Cit} (h : List.Sublist L' L) : tot L' ≤ tot L := by
  induction h with
  | slnil => exact Nat.le_refl _
  | cons a _ ih => simp; omega
  | cons_cons a _ ih => simp; omega
theorem OkT.sub {C : Nat} {L L' : List Cit} (h : OkT C L) (hs : List.Sublist L' L) : OkT C L' := by
  refine ⟨h.c, fun i hi => h.s i (hs.subset hi), Nat.le_trans (tot_sub hs) h.t⟩
theorem OkT.len {C : Nat} {L : List Cit} (h : OkT C L) : L.length ≤ C := by
  have : ∀ L : List Cit, (∀ i ∈ L, 0 < i.sz) → L.length ≤ tot L := fun L => by
    induction L with
    | nil => intro _; simp
    | cons x L ih =>
      intro h
      have := ih fun i hi => h i (List.mem_cons_of_mem _ hi)
      have := h x (by simp)
      simp; omega
  exact Nat.le_trans (this L fun i hi => (h.s i hi).1) h.t
theorem rem_sub (k : ByteArray) (L : List Cit) : List.Sublist (rem k L) L := List.filter_sublist
theorem its_len (T : List Tri) : (its T).length = T.length := List.length_map ..
section
variable {w : World} {k : Value → W} {cb mb lb C : Nat} {lru : Bool} {T : List Tri} {kb : ByteArray}
theorem rem_of {T T' : List Tri} {kb : ByteArray} (h : OkT C (its T)) (e : its T' = rem kb (its T)) : OkT C (its T') := by rw [e]; exact h.sub (rem_sub _ _)
theorem its_mem {T : List Tri} {t : Tri} (h : t ∈ T) : t.1 ∈ its T := List.mem_map_of_mem h
/-- An item is taken out by its key. -/
theorem rm_spec (h : CM w cb mb lb lru C T) (ok : OkT C (its T))
    (hk : ∀ w' T', CM w' cb mb lb lru C T' → its T' = rem kb (its T) → OkT C (its T') → (∀ t ∈ T', t ∈ T) → (∀ t ∈ T', t.1.k ≠ kb) → Fr (G cb mb lb T) w w' → k (.tuple #[]) w') :
    F65 k (some ⟨cb, 0, none⟩) kb w := by
  have hc := ok.c
  have hlen := ok.len
  rw [its_len] at hlen
  exact F65_spec h (by omega) (fun t ht => by have := ok.s _ (its_mem ht); omega) (by have := ok.t; omega) fun w' T' h1 h2 h3 h4 f => hk w' T' h1 h2 (rem_of ok h2) h3 h4 f
theorem its_snoc {T : List Tri} {L : List Cit} {x : Cit} (h : its T = L ++ [x]) : ∃ U t, T = U ++ [t] ∧ its U = L ∧ t.1 = x := by
  obtain ⟨U, V, rfl, h1, h2⟩ := List.map_eq_append_iff.1 h
  obtain ⟨t, V', rfl, h3, h4⟩ := List.map_eq_cons_iff.1 h2
  obtain rfl := List.map_eq_nil_iff.1 h4
  exact ⟨U, t, rfl, h1, h3⟩
/-- Room is made for an item. -/
theorem F66_spec {a : Nat} (h : CM w cb mb lb lru C T) (ok : OkT C (its T)) (ha : a ≤ C)
    (hk : ∀ w' T', CM w' cb mb lb lru C T' → its T' = evi (C - a) (its T) → OkT C (its T') → (∀ t ∈ T', t ∈ T) → Fr (G cb mb lb T) w w' → k (.tuple #[]) w') :
    F66 k (some ⟨cb, 0, none⟩) ((a : Nat) : Int) w := by
  have hC := ok.c
  have htt := ok.t
  unfold F66
  refine drw_intro fun w1 f1 z1 => ?_
  have h1 := h.fr0 f1
  simp only [NN_mk, add_mk, Nat.zero_add]
  refine load_int (i := 1) h1.b rfl (load_int (i := 0) h1.b rfl ?_)
  rw [addI_u64 (by omega) (by omega), wrap_i64 (by omega) (by omega), wrap_i64 (by omega) (by omega), subI_i64 (by omega) (by omega)]
  refine bind_intro ?_
  refine F66_L1_rule (I := fun c m w' => c = some ⟨cb, 0, none⟩ ∧ ∃ U, m = ((tot (its U) : Nat) : Int) + ((a : Nat) : Int) - ((C : Nat) : Int) ∧ CM w' cb mb lb lru C U ∧ OkT C (its U) ∧ (∀ t ∈ U, t ∈ T) ∧ evi (C - a) (its U) = evi (C - a) (its T) ∧ Fr (G cb mb lb T) w w')
    (μ := fun c m w' => (m + 20000).toNat) ?_ ⟨rfl, T, rfl, h1, ok, fun _ h => h, rfl, f1.mono fun _ h => h.elim⟩
  rintro _ m w2 ⟨rfl, U, rfl, hU, okU, hsub, hev, f2⟩
  have htU := okU.t
  unfold F66_L1
  by_cases hgt : C - a < tot (its U)
  · rw [decide_eq_true (show ((tot (its U) : Nat) : Int) + ((a : Nat) : Int) - ((C : Nat) : Int) > 0 by omega), BIf_true]
    simp only [NN_mk, add_mk, Nat.zero_add]
    obtain ⟨L, x, hLx⟩ : ∃ L x, its U = L ++ [x] := by
      rcases List.eq_nil_or_concat (its U) with e | ⟨L, x, e⟩
      · rw [e] at hgt; simp at hgt
      · exact ⟨L, x, by rw [e, List.concat_eq_append]⟩
    obtain ⟨V, t, rfl, hV, htx⟩ := its_snoc hLx
    obtain ⟨key, hq, hkey⟩ := hU.q
    have htm : t ∈ V ++ [t] := by simp
    have hels : els (V ++ [t]) = els V ++ [t.2.1] := by simp [els]
    refine load_ptr (i := 3) hU.b rfl ?_
    have hlen := okU.len
    rw [its_len] at hlen
    refine F69_call (F69_spec hq (by simp [els] at hlen ⊢; omega) (back_ptr ?_))
    rw [hels, List.getLast?_append]
    show NN (some ⟨t.2.1, 0, none⟩) _ w2
    simp only [NN_mk, add_mk, Nat.zero_add]
    obtain ⟨n1, n2, hel⟩ := hq.el (x := t.2.1) (by rw [hels]; simp)
    refine load_any (i := 3) hel rfl ?_
    refine ⟨(key t.2.1, ()), rfl, ?_⟩
    show LoadT .map ⟨cb, 2, none⟩ _ w2
    rw [hkey t htm]
    obtain ⟨l, hm, hnd, hg⟩ := hU.m
    have hnV : ∀ y ∈ V, y.1.k ≠ t.1.k := fun y hy e => by
      have := hU.n
      rw [List.map_append] at this
      exact (List.nodup_append.1 this).2.2 _ (List.mem_map_of_mem hy) _ (by simp) e
    have hf : find t.1.k (V ++ [t]) = some t := find_at (ys := []) hnV rfl
    refine load_map (i := 2) hU.b rfl (look_p hm (hg t.1.k) ?_)
    rw [hf]
    show NN (some ⟨t.2.2, 0, none⟩) _ w2
    rw [NN_mk]
    refine load_any (i := 0) (hU.d t htm) rfl ?_
    have hst := okU.s _ (its_mem htm)
    refine size_intro (by omega) fun w3 f3 => bind_intro ?_
    have e2 : tot (its (V ++ [t])) = tot (its V) + t.1.sz := by simp [its]
    rw [wrap_i64 (by omega) (by omega), subI_i64 (by omega) (by omega)]
    refine F65_call (rm_spec (hU.fr0 f3) okU fun w4 U' hU' e4 ok' hs' hne f4 => back0 ?_)
    have hit : its U' = its V := by rw [e4]; exact (rem_at (ys := []) hnV (by simp) rfl).trans (by simp)
    have hG : ∀ b, G cb mb lb (V ++ [t]) b → G cb mb lb T b := fun b hb => G_sub hsub hb
    refine ⟨⟨trivial, U', by rw [hit]; omega, hU', ok', fun y hy => hsub y (hs' y hy), ?_, (f2.trans f3 fun _ h => h.elim).trans f4 fun b hb => .inl (hG b hb)⟩, ?_⟩
    · rw [← hev, hit, hLx, hV]
      exact (ev_snoc L _ x (by rw [← hLx]; exact hgt)).symm
    · show (((tot (its (V ++ [t])) : Nat) : Int) + ((a : Nat) : Int) - ((C : Nat) : Int) - ((t.1.sz : Nat) : Int) + 20000).toNat < _
      omega
  · rw [decide_eq_false (show ¬ ((tot (its U) : Nat) : Int) + ((a : Nat) : Int) - ((C : Nat) : Int) > 0 by omega), BIf_false]
    refine hk w2 U hU ?_ okU hsub f2
    rw [← hev]
    exact (ev_all _ _ (by omega)).symm
/-- What is putI. -/
def putI (C : Nat) (i : Cit) (L : List Cit) : List Cit := i :: evi (C - i.sz) (rem i.k L)
theorem put_ok {i : Cit} {L : List Cit} (h : OkT C L) (h0 : 0 < i.sz) (h1 : i.sz ≤ C) : OkT C (putI C i L) := by
  have he := ev_tot (rem i.k L) (C - i.sz)
  refine ⟨h.c, fun j hj => ?_, by unfold putI; simp; omega⟩
  rcases List.mem_cons.1 hj with rfl | hj
  · exact ⟨h0, h1⟩
  · exact h.s j ((rem_sub _ _).subset ((ev_pre _ _).subset hj))
theorem F62_spec {i : Cit} (h : CM w cb mb lb lru C T) (ok : OkT C (its T)) (h0 : 0 < i.sz) (h1 : i.sz ≤ C)
    (hk : ∀ w' T', CM w' cb mb lb lru C T' → its T' = putI C i (its T) → (∀ b, G cb mb lb T' b → G cb mb lb T b ∨ w.heap.size ≤ b) → Fr (G cb mb lb T) w w' → k (.tuple #[]) w') :
    F62 k (some ⟨cb, 0, none⟩) i.k (itV i) w := by
  have hC := ok.c
  unfold F62
  refine F65_call (rm_spec h ok fun w1 T1 c1 e1 ok1 s1 n1 f1 => back0 ?_)
  refine size_intro (by omega) fun w2 f2 => ?_
  refine F66_call (F66_spec (c1.fr0 f2) ok1 h1 fun w3 T3 c3 e3 ok3 s3 f3 => back0 ?_)
  have hne3 : ∀ t ∈ T3, t.1.k ≠ i.k := fun t ht => n1 t (s3 t ht)
  have f03 : Fr (G cb mb lb T) w w3 := (f1.trans f2 fun _ h => h.elim).trans f3 fun b hb => .inl (G_sub s1 hb)
  refine Req_iff.2 ⟨rfl, new_intro fun d w4 e4 bd fd zd => ?_⟩
  have c4 := c3.fr0 fd
  obtain ⟨l, hm, hnd, hg⟩ := c4.m
  obtain ⟨key, hq, hkey⟩ := c4.q
  have htot := ok3.t
  have htot' := ev_tot (rem i.k (its T)) (C - i.sz)
  have hlen3 := ok3.len
  rw [its_len] at hlen3
  simp only [NN_mk, add_mk, Nat.zero_add]
  have hdG : ∀ b, G cb mb lb T3 b → b < w3.heap.size := fun b hb => c3.lt hb
  -- the record: the element is putI in front and noted in the item
  have hrec : ∀ (K : Option Addr → W), (∀ w5 e key', w4.heap.size ≤ e → LM w5 lb key' (e :: els T3) → (∀ t ∈ T3, key' t.2.1 = t.1.k) → key' e = i.k → Fr (fun b => b ∈ lb :: els T3) w4 w5 → K (some ⟨e, 0, none⟩) w5) → F22 (fun v => Back (.s (.one .ptr)) K (.returned v)) (some ⟨cb, 0, none⟩) i.k w4 := fun K hK => by
    unfold F22
    simp only [NN_mk, add_mk, Nat.zero_add]
    refine load_map (i := 2) c4.b rfl (look_pb hm (hg i.k) ?_)
    rw [find_none.2 hne3, show (none : Option Tri).isSome = false from rfl, BIf_false]
    refine load_ptr (i := 3) c4.b rfl ?_
    refine F26_call (F26_spec hq (by simp [els]; omega) fun w5 e he hl5 f5 => back_ptr (back_ptr ?_))
    have helt : ∀ t ∈ T3, t.2.1 ≠ e := fun t ht x => by
      have := hq.lt (x := t.2.1) (List.mem_cons_of_mem _ (List.mem_map_of_mem (f := (·.2.1)) ht))
      omega
    exact hK w5 e _ he hl5 (fun t ht => by simp only [if_neg (helt t ht)]; exact hkey t ht) (by simp) f5
  -- the rest, behind the element
  have fin : ∀ (w6 : World) (e : Nat) (key' : Nat → ByteArray), w4.heap.size ≤ e → LM w6 lb key' (e :: els T3) → (∀ t ∈ T3, key' t.2.1 = t.1.k) → key' e = i.k → Fr (fun b => b ∈ lb :: els T3 ∨ b = d) w4 w6 → Blk w6 d 80 [itV i, pb e] →
      (LoadT .map ⟨cb, 2, none⟩ fun m13 =>
       RawU Go.Proofs.Tryd.prog (Instr.mapUpdate 70 (.map m13) (.string i.k) (.pointer (some ⟨d, 0, none⟩))) <|
       Drw <|
       LoadT (.int .u64) ⟨cb, 1, none⟩ fun x15 =>
       NextT Go.Proofs.Tryd.prog (callMethod (itV i) "Size" [].toArray) (.s (.one (.int .u64))) fun x16 =>
       Chk1 ⟨cb, 1, none⟩ (.int .u64 x15) <|
       Store1 ⟨cb, 1, none⟩ (.int .u64 (addI .u64 x15 x16)) <|
       k (.tuple #[])) w6 := fun w6 e key' he hl6 hk1 hk2 f6 b6 => by
    have hd4 : d = w3.heap.size := e4
    have notd : ∀ {b : Nat}, G cb mb lb T3 b → b ≠ d := fun hb => by have := hdG _ hb; omega
    have ncb : ¬ (cb ∈ lb :: els T3 ∨ cb = d) := fun hx => by
      rcases hx with hx | hx
      · have := hq.ty cb _ _ hx c4.b; simp at this
      · exact notd (.inl rfl) hx
    have nmb : ¬ (mb ∈ lb :: els T3 ∨ mb = d) := fun hx => by
      rcases hx with hx | hx
      · obtain ⟨nx, pv, hN, _⟩ := hq
        obtain ⟨u, us, hb, _⟩ := (hN mb hx).blk
        exact hm.not_blk hb rfl
      · exact notd (.inr (.inl rfl)) hx
    have bc := c4.b.fr f6 ncb
    have m6 := hm.fr f6 nmb
    refine load_map (i := 2) bc rfl (mapUpdate_intro (kv := fun s : ByteArray => Value.string s) (P := Tryd.prog) und70.choose_spec.1 keyS m6 fun w7 m7 f7 z7 => drw_intro fun w8 f8 z8 => ?_)
    have hcm : cb ≠ mb := fun e => hm.not_blk (e ▸ c4.b) rfl
    have bc8 := (bc.fr f7 hcm).fr f8 id
    refine load_int (i := 1) bc8 rfl (size_intro (by omega) fun w9 f9 => ?_)
    have bc9 := bc8.fr f9 id
    refine ⟨by rw [bc9.cell]; rfl, ?_⟩
    have e3' : tot (its T3) + i.sz ≤ C := by rw [e3, e1]; omega
    rw [addI_u64 (by omega) (by omega), show ((tot (its T3) : Nat) : Int) + ((i.sz : Nat) : Int) = ((tot (its ((i, e, d) :: T3)) : Nat) : Int) by simp [its]; omega]
    refine store_intro (i := 1) bc9 (by simp) rfl fun w10 b10 f10 z10 => ?_
    have f69 : Fr (fun b => b = mb) w6 w9 := ((f7.mono fun b h => .inl h).trans f8 fun _ h => h.elim).trans f9 fun _ h => h.elim
    have f610 : Fr (fun b => b = mb ∨ b = cb) w6 w10 := (f69.mono fun b h => .inl (.inl h)).trans f10 fun b h => .inl (.inr h)
    have d10 : ∀ t ∈ T3, Blk w10 t.2.2 80 [itV t.1, pb t.2.1] := fun t ht => by
      refine ((c4.d t ht).fr f6 fun hx => ?_).fr f610 fun hx => ?_
      · rcases hx with hx | hx
        · have := hq.ty _ _ _ hx (c4.d t ht); simp at this
        · have := (c3.d t ht).lt; omega
      · rcases hx with hx | hx
        · exact hm.not_blk (hx ▸ c4.d t ht) rfl
        · have := (c4.b.unique (hx ▸ c4.d t ht)).1; simp at this
    have nd10 : ¬ (d = mb ∨ d = cb) := fun hx => by
      rcases hx with hx | hx
      · exact notd (.inr (.inl rfl)) hx.symm
      · exact notd (.inl rfl) hx.symm
    refine hk w10 ((i, e, d) :: T3) ⟨b10, ⟨_, (m7.fr f8 id).fr f9 id |>.fr f10 (fun x => hcm x.symm), put_nd hnd, fun k' => ?_⟩, ⟨key', hl6.fr f610 fun x hx hh => ?_, fun t ht => ?_⟩, fun t ht => ?_, ?_⟩ ?_ ?_ ?_
    · by_cases ek : k' = i.k
      · subst ek
        rw [getL_put_same]
        unfold find
        simp [pb]
      · rw [getL_put_ne _ ek, hg]
        unfold find
        rw [List.find?_cons_of_neg (by simpa using fun x => ek x.symm)]
    · have hty := hl6.ty x
      rcases hh with hh | hh
      · obtain ⟨nx, pv, hN, _⟩ := hl6
        obtain ⟨u, us, hb, _⟩ := (hN x hx).blk
        exact m6.not_blk (hh ▸ hb) rfl
      · have := hty _ _ hx (hh ▸ bc); simp at this
    · rcases List.mem_cons.1 ht with rfl | ht
      · exact hk2
      · exact hk1 t ht
    · rcases List.mem_cons.1 ht with rfl | ht
      · exact b6.fr f610 nd10
      · exact d10 t ht
    · refine List.nodup_cons.2 ⟨fun hx => ?_, c4.n⟩
      obtain ⟨t, ht, e'⟩ := List.mem_map.1 hx
      exact hne3 t ht e'
    · show i :: its T3 = _
      rw [e3, e1]; rfl
    · intro b hb
      have sz3 := f03.size
      rcases hb with hb | hb | hb
      · exact .inl (.inl hb)
      · exact .inl (.inr (.inl hb))
      · rcases List.mem_cons.1 hb with hb | hb
        · exact .inl (.inr (.inr (by simp [hb])))
        · rcases List.mem_cons.1 hb with hb | hb
          · have hb : b = e := hb
            exact .inr (by omega)
          · exact .inl (G_sub (fun t ht => s1 t (s3 t ht)) (.inr (.inr (List.mem_cons_of_mem _ hb))))
    · have sz3 := f03.size
      refine ((f03.trans fd fun _ h => h.elim).trans f6 fun b hb => ?_).trans f610 fun b hb => ?_
      · rcases hb with hb | hb
        · exact .inl (G_sub (fun t ht => s1 t (s3 t ht)) (.inr (.inr hb)))
        · exact .inr (by omega)
      · rcases hb with hb | hb
        · exact .inl (.inr (.inl hb))
        · exact .inl (.inl hb)
  have hdn : ∀ {w5 : World}, Fr (fun b => b ∈ lb :: els T3) w4 w5 → Blk w5 d 80 [itV i, .pointer none] := fun f5 => bd.fr f5 fun hx => by
    have := hdG d (.inr (.inr hx)); omega
  have ncb5 : cb ∉ lb :: els T3 := fun hx => by have := hq.ty cb _ _ hx c4.b; simp at this
  cases lru with
  | false =>
    refine load_any (i := 4) c4.b rfl ?_
    refine NextT_enter (callB_enter ent22) (F22_calls (hrec _ fun w5 e key' he hl5 hk1 hk2 f5 => ?_))
    refine F67_call ?_
    unfold F67
    rw [show (!(some (⟨e, 0, none⟩ : Addr)).isNone) = true from rfl, BIf_true]
    simp only [NN_mk, add_mk, Nat.zero_add]
    refine store_intro (i := 1) (hdn f5) (by simp) rfl fun w6 b6 f6 z6 => back0 ?_
    have bc6 := (c4.b.fr f5 ncb5).fr f6 (fun x : cb = d => by have := hdG cb (.inl rfl); omega)
    refine load_any (i := 5) bc6 rfl ?_
    refine NextT_enter (callB_enter ent21) (F21_calls ?_)
    unfold F21
    refine back_ptr (F67_call ?_)
    unfold F67
    rw [show (!(none : Option Addr).isNone) = false from rfl, BIf_false]
    refine back0 (fin w6 e key' he (hl5.fr f6 fun x hx hh => ?_) hk1 hk2 ((f5.mono fun b h => .inl (.inl h)).trans f6 fun b h => .inl (.inr h)) b6)
    have hh : x = d := hh
    rcases List.mem_cons.1 hx with h | h
    · have := hdG lb (.inr (.inr (by simp))); omega
    · rcases List.mem_cons.1 h with h | h
      · have := bd.lt; omega
      · have := hdG x (.inr (.inr (List.mem_cons_of_mem _ h))); omega
  | true =>
    refine load_any (i := 4) c4.b rfl ?_
    refine NextT_enter (callB_enter ent21) (F21_calls ?_)
    unfold F21
    refine back_ptr (F67_call ?_)
    unfold F67
    rw [show (!(none : Option Addr).isNone) = false from rfl, BIf_false]
    refine back0 (load_any (i := 5) c4.b rfl ?_)
    refine NextT_enter (callB_enter ent22) (F22_calls (hrec _ fun w5 e key' he hl5 hk1 hk2 f5 => ?_))
    refine F67_call ?_
    unfold F67
    rw [show (!(some (⟨e, 0, none⟩ : Addr)).isNone) = true from rfl, BIf_true]
    simp only [NN_mk, add_mk, Nat.zero_add]
    refine store_intro (i := 1) (hdn f5) (by simp) rfl fun w6 b6 f6 z6 => back0 ?_
    refine fin w6 e key' he (hl5.fr f6 fun x hx hh => ?_) hk1 hk2 ((f5.mono fun b h => .inl (.inl h)).trans f6 fun b h => .inl (.inr h)) b6
    have hh : x = d := hh
    rcases List.mem_cons.1 hx with h | h
    · have := hdG lb (.inr (.inr (by simp))); omega
    · rcases List.mem_cons.1 h with h | h
      · have := bd.lt; omega
      · have := hdG x (.inr (.inr (List.mem_cons_of_mem _ h))); omega
end
end Go.Proofs.YtmaejciimpnogaaDoor.E
