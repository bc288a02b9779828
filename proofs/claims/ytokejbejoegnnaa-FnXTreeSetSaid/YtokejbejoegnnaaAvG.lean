/-
  The law of the tree and the set, walked.
-/
import Derived.Test.YtokejbejoegnnaaAvE
namespace Go.Proofs.Ytokejbejoegnnaa.E
open Go Tr
set_option linter.unusedSimpArgs false
set_option linter.unusedVariables false
set_option maxRecDepth 100000
set_option maxHeartbeats 4000000

/-- append of numbers to numbers, none of them may be there. -/
theorem app24 {K : Option Addr → Nat → Nat → W} {w : World} {p q : Option Addr} {l c m d : Nat} {xs ys : List Int} (hX : Own w 3 p l c (ints xs)) (hY : Own w 3 q m d (ints ys)) (hb : xs.length + ys.length < 100000)
    (hk : ∀ p' c' w', Own w' 3 p' (xs ++ ys).length c' (ints (xs ++ ys)) → (∀ b, bl p' b → bl p b ∨ w.heap.size ≤ b) → Fr (fun b => bl p b) w w' → K p' (xs ++ ys).length c' w') :
    NextT Try.prog (builtin .append #[24, 24] 24 [false, false].toArray [.slice p l c, .slice q m d].toArray) (.s (.one .slice)) K w := by
  obtain ⟨ii, g1, g2, g3, g4⟩ := inf3'
  have hl : xs.length = l := by simpa using hX.1
  have hm : ys.length = m := by simpa using hY.1
  have hlen : (xs ++ ys).length = l + m := by simp; omega
  rw [hlen] at hk
  rcases id hY.2 with ⟨rfl, rfl, rfl⟩ | ⟨a, rest, rfl, _⟩
  · have hr := run_append_owned_none (P := Try.prog) (w := w) 0 24 24 3 ii 1 und24' g1 (.slice p l c) l (ints xs) hX.owns
    have hys : ys = [] := List.length_eq_zero_iff.1 hm
    subst hys
    refine NextT_slice (builtin_append hr) ?_
    refine hk p c w (by rw [List.append_nil]; exact hX) (fun b h => .inl h) (Fr.refl _ _)
  · refine append_own (P := Try.prog) und24' g1 g2 g3 (by decide) rfl g4 hX.toN (news := ints ys) (m := m) (by simp [hm]) ?_ (ints_one ys) (by omega) fun p' c' w' f' o' hp' => ?_
    · intro j u hj
      have hjl : j < m := by rw [← hm, ← ints_length ys]; exact (List.getElem?_eq_some_iff.1 hj).1
      rw [add_mk, Nat.zero_add, hY.cell hjl]; exact hj
    · have o' := Own.ofN o'
      rw [← ints_append] at o'
      exact hk p' c' w' o' hp' f'
theorem remAll_len_eq : ∀ (l : List Int) {s : List Int}, s.Nodup → l.Nodup → (∀ x ∈ l, x ∈ s) → (remAll s l).length + l.length = s.length
  | [], s, _, _, _ => rfl
  | x :: l, s, hs, hl, h => by
    obtain ⟨h1, h2⟩ := List.nodup_cons.1 hl
    have hx := h x (List.mem_cons_self ..)
    have := remAll_len_eq l (s := s.erase x) (hs.erase x) h2 fun y hy => (hs.mem_erase_iff).2 ⟨fun e => h1 (e ▸ hy), h y (List.mem_cons_of_mem _ hy)⟩
    have he := List.length_erase_of_mem hx
    have hp := List.length_pos_of_mem hx
    simp only [remAll, List.length_cons]; omega
/-- The law. -/
theorem F6_spec {k : Value → W} {w : World} {p1 p2 : Option Addr} {l1 c1 l2 c2 : Nat} {many : Int} {x y : List Int} (hX : Shorts w p1 x) (hl1 : l1 = x.length) (hx : I16 x) (hmany : 0 ≤ many ∧ many < 256) (hY : Shorts w p2 y) (hl2 : l2 = y.length) (hy : I16 y)
    (hk : ∀ w', Fr (fun _ => False) w w' → k (.bool true) w') : F6 k p1 l1 c1 many p2 l2 c2 w := by
  have hw := hk w (Fr.refl _ _)
  subst hl1; subst hl2
  unfold F6
  refine BIf_intro (fun _ => hw) fun _ => BIf_intro (fun _ => hw) fun _ => ?_
  refine F7_call (F7_spec (back_bool hw) fun a1 b1 => back_bool ?_)
  simp only [Bool.not_true, BIf_false]
  refine BIf_intro (fun _ => hw) fun h20 => ?_
  have h20 := of_decide_eq_false h20
  have lf := enAll_len 0 x
  have pf := enAll_pos (more := 0) a1
  have nf := enAll_nodup 0 x
  have kf : (enAll 0 [] x).map kx = addAll [] x := enAll_keys 0 x []
  refine F12_call (F12_spec (more := 0) hX rfl (by omega) hx (by omega) fun q7 d7 w1 o7 h7 f1 => back_slice ?_)
  generalize enAll 0 [] x = own at *
  obtain ⟨n, hn, hn0, hn1⟩ := many_eq (n := 0) hmany pf (by omega)
  refine ⟨by omega, bind_intro ?_⟩
  rw [hn]
  have hcap : own.length ≤ d7 := by rcases o7.2 with ⟨_, h1, _⟩ | ⟨_, _, _, _, _, h1, _⟩ <;> omega
  simp only [Int.toNat_natCast, Nat.sub_zero]
  refine ⟨by omega, ?_⟩
  have htk : (own.take n).length = n := by simp; omega
  have e7 := o7.pairs
  have e7s : Edges w1 (sliceA q7 0 d7 2) (own.take n) := by have := edges_sub (lo := 0) (hi := n) o7; rwa [List.drop_zero] at this
  obtain ⟨i3, g1, g2, g3, g4⟩ := inf3'
  refine F6_L1_rule (fun lp ll lc ap al ac op ol oc n' gp gl gc kp kl kc qp ql qc sp sl sc x15 x16 w' => lp = p1 ∧ ll = x.length ∧ ap = p2 ∧ al = y.length ∧ op = q7 ∧ ol = own.length ∧ oc = d7 ∧ n' = (n : Nat) ∧ kp = none ∧ kl = 0 ∧ kc = 0 ∧ qp = none ∧ ql = 0 ∧ qc = 0 ∧ sp = sliceA q7 0 d7 2 ∧ sl = n ∧ x15 = (n : Nat) ∧ ∃ i : Nat, x16 = i ∧ i ≤ n ∧ gl = i ∧ Own w' 3 gp i gc (ints (((own.take n).take i).map kx)) ∧ (∀ b, bl gp b → w1.heap.size ≤ b) ∧ Fr (fun _ => False) w1 w')
    (fun _ _ _ _ _ _ _ _ _ _ _ _ _ _ _ _ _ _ _ _ _ _ x15 x16 _ => (x15 - x16).toNat) ?_ ⟨rfl, rfl, rfl, rfl, rfl, rfl, rfl, rfl, rfl, rfl, rfl, rfl, rfl, rfl, rfl, rfl, rfl, 0, rfl, Nat.zero_le _, rfl, Own.nil _ _, fun b hb => (by obtain ⟨a, h, _⟩ := hb; cases h), Fr.refl _ _⟩
  rintro lp ll lc ap al ac op ol oc n' gp gl gc kp kl kc qp ql qc sp sl sc x15 x16 w2 ⟨elp, ell, eap, eal, eop, eol, eoc, en, rfl, rfl, rfl, rfl, rfl, rfl, esp, esl, rfl, i, rfl, hi, e5, o2, h2, f2⟩
  obtain rfl := elp.symm; obtain rfl := ell.symm; obtain rfl := eap.symm; obtain rfl := eal.symm; obtain rfl := eop.symm; obtain rfl := eol.symm; obtain rfl := eoc.symm; obtain rfl := en.symm; obtain rfl := esp.symm; obtain rfl := esl.symm
  unfold F6_L1
  by_cases hil : i < n
  · obtain rfl := e5.symm
    rw [decide_eq_true (by omega)]
    have hget : (own.take n)[i]? = some ((own.take n)[i]'(by omega)) := List.getElem?_eq_getElem _
    generalize (own.take n)[i]'(by omega) = e at hget
    obtain ⟨a, ha, k1, k2⟩ := e7s.fr0 f2 i e hget
    rw [ha]
    simp only [BIf_true, NN_mk, Int.toNat_natCast]
    refine ⟨by omega, LoadT_int.2 ⟨_, k1, LoadT_int.2 ⟨_, k2, ?_⟩⟩⟩
    refine new_intro fun m wd ed bd fd zd => ?_
    refine store_intro (i := 0) bd (by simp) rfl fun we be fe ze => ?_
    refine store_intro (i := 1) be (by simp) rfl fun wf bf ff zf => ?_
    refine load_int (i := 0) bf rfl ?_
    have fcf : Fr (fun _ => False) w2 wf := (fd.trans fe fun b h => .inr (by have : b = m := h; omega)).trans ff fun b h => .inr (by have : b = m := h; omega)
    refine append1 (P := Try.prog) und24' g1 g2 g3 rfl (by omega) (o2.fr fcf fun _ _ h => h) rfl rfl (by omega) fun p' c' wb fb ob hp' hs' => ?_
    rw [add_one (by omega)]
    have f6a := f2.trans fcf fun _ h => h.elim
    refine ⟨⟨(by trivial), (by trivial), (by trivial), (by trivial), (by trivial), (by trivial), (by trivial), (by trivial), (by trivial), (by trivial), (by trivial), (by trivial), (by trivial), (by trivial), (by trivial), (by trivial), (by trivial), i + 1, rfl, by omega, (by trivial), ?_, fun b hb => (hp' b hb).elim (h2 b) fun h => by have := f6a.size; omega, f6a.trans fb fun b hb => .inr (h2 b hb)⟩, by omega⟩
    rw [take_snoc hget, List.map_append, ints_append]
    exact ob
  have : i = n := by omega
  subst this
  rw [decide_eq_false (by omega)]
  simp only [BIf_false]
  rw [List.take_of_length_le (by omega)] at o2
  generalize hgone : (own.take i).map kx = gone at *
  have hgl : gone.length = i := by rw [← hgone, List.length_map, htk]
  obtain rfl := e5.symm
  refine F8_call (F8_spec ((hX.fr0 f1).fr0 f2) rfl (by omega) hx fun q25 d25 w3 o25 h25 f3 => back_slice ?_)
  refine F8_call (F8_spec (((hY.fr0 f1).fr0 f2).fr0 f3) rfl (by omega) hy fun q26 d26 w4 o26 h26 f4 => back_slice ?_)
  refine app24 (o25.fr f4 fun _ _ h => h) o26 (by omega) fun q27 d27 w5 o27 h27 f5 => ?_
  have f23 := f3
  have F5 : Fr (fun _ => False) w2 w5 := (f3.trans f4 fun _ h => h.elim).trans f5 fun b hb => .inr (h25 b hb)
  generalize hall : x ++ y = all at *
  have hal : all.length ≤ 50 := by rw [← hall]; simp; omega
  have I5 := o27.ints
  refine F6_L2_rule (fun lp ll lc op ol oc n' gp' gl gc' kp kl kc qp ql qc sp sl sc x35 x36 w' => lp = p1 ∧ ll = x.length ∧ op = q7 ∧ ol = own.length ∧ oc = d7 ∧ n' = (i : Nat) ∧ gp' = gp ∧ gl = i ∧ gc' = gc ∧ sp = q27 ∧ sl = all.length ∧ x35 = (all.length : Nat) ∧ ∃ j : Nat, x36 = j ∧ j ≤ all.length ∧ kl = j ∧ ql = j ∧ Own w' 3 kp j kc (ints (all.take j)) ∧ OwnN w' 40 2 qp j qc (flat ((all.take j).map fun v => (v, 0))) ∧ (∀ b, bl kp b ∨ bl qp b → w5.heap.size ≤ b) ∧ Fr (fun _ => False) w5 w')
    (fun _ _ _ _ _ _ _ _ _ _ _ _ _ _ _ _ _ _ _ x35 x36 _ => (x35 - x36).toNat) ?_ ⟨rfl, rfl, rfl, rfl, rfl, rfl, rfl, rfl, rfl, rfl, rfl, rfl, 0, rfl, Nat.zero_le _, rfl, rfl, Own.nil _ _, OwnN.nil _ _ _, fun b hb => (by rcases hb with ⟨a, h, _⟩ | ⟨a, h, _⟩ <;> cases h), Fr.refl _ _⟩
  rintro lp ll lc op ol oc n' gp' gl gc' kp kl kc qp ql qc sp sl sc x35 x36 w6 ⟨elp, ell, eop, eol, eoc, en, egp, egl, egc, esp, esl, rfl, j, rfl, hj, ekl, eql, ok, oq, hbk, f6⟩
  obtain rfl := elp.symm; obtain rfl := ell.symm; obtain rfl := eop.symm; obtain rfl := eol.symm; obtain rfl := eoc.symm; obtain rfl := en.symm; obtain rfl := egp.symm; obtain rfl := egl.symm; obtain rfl := egc.symm; obtain rfl := esp.symm; obtain rfl := esl.symm
  unfold F6_L2
  by_cases hjl : j < all.length
  · obtain rfl := ekl.symm; obtain rfl := eql.symm
    rw [decide_eq_true (by omega)]
    have hget : all[j]? = some (all[j]'(by omega)) := List.getElem?_eq_getElem _
    generalize all[j]'(by omega) = v at hget
    obtain ⟨a, rfl, k1⟩ := I5.fr0 f6 j v hget
    simp only [BIf_true, NN_mk, Int.toNat_natCast]
    refine ⟨by omega, LoadT_int.2 ⟨_, k1, ?_⟩⟩
    refine append1 (P := Try.prog) und24' g1 g2 g3 rfl (by omega) ok rfl rfl (by omega) fun p' c' wb fb ob hp' hs' => ?_
    have tyk : ∀ b, bl kp b → ∃ us, Blk w6 b 3 us := fun b hb => ok.blk hb
    have oqb : OwnN wb 40 2 qp j qc (flat ((all.take j).map fun v => (v, 0))) := oq.fr fb fun b hb hb' => by
      obtain ⟨us, hu⟩ := oq.blk hb
      obtain ⟨us', hu'⟩ := tyk b hb'
      exact absurd (hu.unique hu').1 (by decide)
    refine qS (x := (v, 0)) fun n wc bc fc => ?_
    refine qSa (oqb.fr fc fun _ _ h => h) bc (by omega) fun p2' c2' wd od hpd kd fd => ?_
    rw [add_one (by omega)]
    have f6b := f6.trans fb fun b hb => .inr (hbk b (.inl hb))
    have f6c := f6b.trans fc fun _ h => h.elim
    refine ⟨⟨(by trivial), (by trivial), (by trivial), (by trivial), (by trivial), (by trivial), (by trivial), (by trivial), (by trivial), (by trivial), (by trivial), (by trivial), j + 1, rfl, by omega, (by trivial), (by trivial), ?_, by rw [take_snoc hget, List.map_append]; exact od, fun b hb => ?_, f6c.trans fd fun b hb => .inr (hbk b (.inr hb))⟩, by omega⟩
    · rw [take_snoc hget, ints_append]
      exact kd.own (ob.fr fc fun _ _ h => h) (by decide)
    · rcases hb with hb | hb
      · rcases hp' b hb with h | h
        · exact hbk b (.inl h)
        · have := f6.size; omega
      · rcases hpd b hb with h | h
        · exact hbk b (.inr h)
        · have := f6c.size; omega
  have : j = all.length := by omega
  subst this
  rw [decide_eq_false (by omega)]
  simp only [BIf_false]
  rw [List.take_length] at ok oq
  generalize hask : (all.map fun v => ((v, 0) : It2)) = ask at *
  have hkl : ask.length = all.length := by rw [← hask, List.length_map]
  obtain rfl := ekl.symm; obtain rfl := eql.symm
  have hall0 : 0 < all.length := by rw [← hall]; simp; omega
  have F6 : Fr (fun _ => False) w2 w6 := F5.trans f6 fun _ h => h.elim
  have F16 : Fr (fun _ => False) w1 w6 := f2.trans F6 fun _ h => h.elim
  simp only [Int.toNat_natCast, Nat.sub_zero]
  refine ⟨by omega, ?_⟩
  obtain ⟨jj, j1, j2, j3, j4⟩ := inf46
  have b47a : ∀ {K : Option Addr → Nat → Nat → W} {w3 : World}, (∀ w', Fr (fun _ => False) w3 w' → Blk w' w3.heap.size 46 (([⟨1, 0, q7, d7, own⟩, ⟨2, 1, sliceA q7 0 d7 2, d7, own.take i⟩] : List Stp).flatMap stc) → K (some ⟨w3.heap.size, 0, none⟩) 2 2 w') → RawT Try.prog (Instr.buildSlice 47 2 [(0, .agg #[.int .i64 1, .int .i64 0, .slice q7 own.length d7]), (1, .agg #[.int .i64 2, .int .i64 1, .slice (sliceA q7 0 d7 2) i d7])].toArray) (.s (.one .slice)) K w3 := fun {K w3} hK => by
    have hf := fill47_2 ⟨1, 0, q7, d7, own⟩ ⟨2, 1, sliceA q7 0 d7 2, d7, own.take i⟩ jj j3
    simp only [htk] at hf
    exact build_intro und47 j1 j2 (by omega) (by omega) hf fun w' f b z => hK w' f b
  refine b47a fun w7 f7 b7 => ?_
  have F17 := F16.trans f7 fun _ h => h.elim
  have eAsk : Edges w7 qp ask := (OwnN.fr (hkl ▸ oq) f7 fun _ _ h => h).pairs
  refine F13_call (F13_spec [⟨1, 0, q7, d7, own⟩, ⟨2, 1, sliceA q7 0 d7 2, d7, own.take i⟩] rfl (Mir own i) b7 (fun s hs => ?_) (by simp) (by simp) eAsk hkl.symm (by omega) (by omega) (mir nf hn0 hn1 (by omega)) fun r L w8 hL R8 f8 => back_saidb ?_)
  · simp only [List.mem_cons, List.not_mem_nil, or_false] at hs
    rcases hs with rfl | rfl
    · exact e7.fr0 F17
    · exact e7s.fr0 F17
  refine new_intro fun n49 w9 e9 b9 f9 z9 => ?_
  refine store_intro (i := 0) b9 (by simp) rfl fun wa ba fa za => ?_
  refine store_intro (i := 1) ba (by simp) rfl fun wb bb fb zb => ?_
  refine store_intro (i := 2) bb (by simp) rfl fun wc bc fc zc => ?_
  have f8c : Fr (fun _ => False) w8 wc := ((f9.trans fa fun b h => .inr (by have : b = n49 := h; omega)).trans fb fun b h => .inr (by have : b = n49 := h; omega)).trans fc fun b h => .inr (by have : b = n49 := h; omega)
  have f6c : Fr (fun _ => False) w6 wc := (f7.trans f8 fun _ h => h.elim).trans f8c fun _ h => h.elim
  have F1c := F16.trans f6c fun _ h => h.elim
  -- the set
  refine F8_call (F8_spec ((hX.fr0 f1).fr0 F1c) rfl (by omega) hx fun q50 d50 wd o50 h50 fd => back_slice ?_)
  obtain ⟨i32, t1, t2, t3, t4⟩ := inf32
  have og : Own wd 3 gp gone.length gc (ints gone) := by rw [hgl]; exact ((o2.fr F6 fun _ _ h => h).fr f6c fun _ _ h => h).fr fd fun _ _ h => h
  have hfs := fillS1 ⟨2, gone, gp, gc⟩ i32 t3
  simp only [hgl] at hfs
  refine build_intro (z := z32) und33 t1 t2 (by omega) (by omega) hfs fun we fe be ze => ?_
  have hst := steps_of (l := [⟨2, gone, gp, gc⟩]) be fun e he => by
    simp only [List.mem_singleton] at he
    subst he
    exact ⟨(og.fr fe fun _ _ h => h).ints, fun b hb => by have := og.lt hb; have := fe.size; show b < we.heap.size; omega⟩
  have opA : opsOk [(2, gone)] := fun q hq => by simp only [List.mem_singleton] at hq; subst hq; exact ⟨.inr (.inl rfl), by simp only; omega⟩
  refine F9_call (F9_spec (xs := x) (st := [(2, gone)]) (S := remAll (addAll [] x) gone) (q := (2, gone)) (o50.fr fe fun _ _ h => h).ints rfl (by omega) hst rfl (by simp) (by simp) opA rfl rfl fun rb wf baseB okB hbB ff => back_said ?_)
  refine new_intro fun n57 wg eg bg fg zg => ?_
  refine store_intro (i := 0) bg (by simp) rfl fun wh bh fh zh => ?_
  refine store_intro (i := 1) bh (by simp) rfl fun wi bi fi zi => ?_
  refine store_intro (i := 2) bi (by simp) rfl fun wj bj fj zj => ?_
  refine store_intro (i := 3) bj (by simp) rfl fun wk bk fk zk => ?_
  have ffk : Fr (fun _ => False) wf wk := (((fg.trans fh fun b e => .inr (by have : b = n57 := e; omega)).trans fi fun b e => .inr (by have : b = n57 := e; omega)).trans fj fun b e => .inr (by have : b = n57 := e; omega)).trans fk fun b e => .inr (by have : b = n57 := e; omega)
  have okBk := okB.fr0 ffk
  refine load_slice (i := 1) bk rfl ?_
  obtain ⟨fl, hperm, hfl, ofl⟩ := okBk.flat
  have hSl := remAll_len_eq gone (addAll_nodup x List.nodup_nil) (by rw [← hgone, List.map_take]; exact nf.sublist (List.take_sublist ..)) fun v hv => by
    rw [← hgone] at hv
    rw [← kf]
    obtain ⟨e, he, rfl⟩ := List.mem_map.1 hv
    exact List.mem_map_of_mem (List.mem_of_mem_take he)
  have hkfl : (addAll [] x).length = own.length := by rw [← kf, List.length_map]
  have hfll : fl.length ≤ 30 := by rw [hperm.length_eq]; omega
  have fck : Fr (fun _ => False) wc wk := ((fd.trans fe fun _ h => h.elim).trans ff fun _ h => h.elim).trans ffk fun _ h => h.elim
  have okk : Own wk 3 kp all.length kc (ints all) := (ok.fr f6c fun _ _ h => h).fr fck fun _ _ h => h
  have hfs4 := fillS1 ⟨4, all, kp, kc⟩ i32 t3
  refine build_intro (z := z32) und33 t1 t2 (by omega) (by omega) hfs4 fun wl fl' bl' zl => ?_
  have hst4 := steps_of (l := [⟨4, all, kp, kc⟩]) bl' fun e he => by
    simp only [List.mem_singleton] at he
    subst he
    exact ⟨(okk.fr fl' fun _ _ h => h).ints, fun b hb => by have := okk.lt hb; have := fl'.size; show b < wl.heap.size; omega⟩
  have opB : opsOk [(4, all)] := fun q hq => by simp only [List.mem_singleton] at hq; subst hq; exact ⟨.inr (.inr rfl), by simp only; omega⟩
  refine F19_call (F19_spec (xs := fl) (st := [(4, all)]) (ofl.fr fl' fun _ _ h => h).ints hfl (by omega) hst4 rfl (by simp) opB fun rs pr cr wm baseC hbC hRecs oR fm => back_slice ?_)
  refine drw_intro fun wn fn zn => ?_
  have fkn : Fr (fun _ => False) wk wn := (fl'.trans fm fun _ h => h.elim).trans fn fun _ h => h.elim
  have b49n := (bc.fr fck id).fr fkn id
  have b57n := bk.fr fkn id
  simp only [BIf_true]
  rw [show ((((1 : Nat) : Int)) == 1) = true from rfl]
  simp only [BIf_true]
  refine load_int (i := 0) b49n rfl (load_int (i := 0) b57n rfl ?_)
  have RR := ((R8.fr0 f8c).fr0 fck).fr0 fkn
  have RB := okBk.fr0 fkn
  have hLl := hL.1
  rw [show (r.n == rb.n) = true by rw [RR.n, RB.n, beq_iff_eq]; simp only; omega]
  simp only [BIf_true]
  refine load_slice (i := 2) b49n rfl ?_
  obtain ⟨hrl, hrec⟩ := hRecs
  obtain ⟨r0, rfl⟩ : ∃ r0, rs = [r0] := by
    match rs, hrl with
    | [r0], _ => exact ⟨r0, rfl⟩
  have hR0 := (hrec 0 r0 _ _ rfl rfl rfl).fr0 fn
  obtain ⟨qr, rfl, k1, k2, k3, k4⟩ := rec_cells (oR.fr fn fun _ _ h => h) (i := 0) (r := r0) rfl
  simp only [NN_mk]
  refine ⟨by decide, LoadT_slice.2 ⟨_, _, _, k4, ?_⟩⟩
  refine F14_call ?_
  rw [RR.hl]
  refine F14_spec RR.has hR0.ex (by simp [hass]; omega) fun wo fo => back_bool ?_
  have hsame : hass (ask.map fun e => look L (kx e)) = all.map fun v => decide (v ∈ stepK (addAll [] fl) 4 all) := by
    rw [← hask]
    simp only [hass, List.map_map]
    refine List.map_congr_left fun v hv => ?_
    simp only [Function.comp_apply]
    rw [hL.2]
    have e1 : kx (v, 0) = v := rfl
    have e2 : stepK (addAll [] fl) 4 all = addAll [] fl := by simp [stepK]
    rw [e1, e2, hgone, kf]
    congr 1
    rw [addAll_mem fl, hperm.mem_iff, remAll_mem gone (addAll_nodup x List.nodup_nil)]
    simp
  rw [decide_eq_true hsame]
  refine ⟨by rw [(b57n.fr fo id).cell]; rfl, by rw [(b49n.fr fo id).cell]; rfl, ?_⟩
  exact hk wo (((((f1.trans F1c fun _ h => h.elim).trans fck fun _ h => h.elim).trans fkn fun _ h => h.elim)).trans fo fun _ h => h.elim)
end Go.Proofs.Ytokejbejoegnnaa.E
