/-
  A deletion, walked: the way down, the copies, the whole; entries deleted.
-/
import Derived.Test.YtokejbejoegnnaaAvW
import Derived.Test.YtokejbejoegnnaaAvS
namespace Go.Proofs.Ytokejbejoegnnaa.E
open Go Tr
set_option linter.unusedSimpArgs false
set_option linter.unusedVariables false
set_option maxRecDepth 100000
set_option maxHeartbeats 4000000

/-- How far the copies have come. -/
structure Cpy (w0 : World) (ib num : Nat) (T : List Nat) (cb dd : Nat) (R : List Fm) (b0 b' : Nat) (bal : Int) (l : Tr) (e : It2) (r : Tr) (w : World) : Prop where
  im : ImM w ib (hd R (some ⟨b', 0, none⟩)) num
  pm : PM w R (some ⟨b', 0, none⟩)
  tc : TrM w (.nd b' bal l e r)
  ob : Blk w b0 119 (ncell bal l.ptr r.ptr e)
  nd : (pbs R ++ (b' :: (l.bs ++ r.bs))).Nodup
  bn : b0 ∉ pbs R
  bk : ∀ b ∈ pbs R ++ (b' :: (l.bs ++ r.bs)), b ∈ T ∨ w0.heap.size ≤ b
  cac : Cac w cb R
  dir : Dir w dd R
  fr : Fr (fun b => b = ib ∨ b ∈ T) w0 w
section
variable {k : Value → W} {w0 : World} {ib num : Nat} {T : List Nat} {cb dd nb : Nat} {old : Value} {b0 : Nat} {bal : Int} {l r : Tr} {e : It2}
theorem del_copy {w : World} {cc dc : Nat} {R : List Fm} (hC : Cpy w0 ib num T cb dd R b0 b0 bal l e r w) (hav : (plug R (.nd b0 bal l e r)).AVL) (hN : Blk w nb 3 [.int .i64 0]) (hne : dd ≠ nb) (hib : ib < w0.heap.size) (hcb : w0.heap.size ≤ cb) (hdd : w0.heap.size ≤ dd) (hnb : w0.heap.size ≤ nb) (hl : (plug R (.nd b0 bal l e r)).list.length ≤ 60)
    (hk : ∀ w', Dne w0 ib num T (inL R ++ (l.list ++ r.list) ++ inR R) w' → k old w') : Loop [.ptr, .slice, .ptr, (.int .i64), .addr, .slice, .any, (.int .i64)] (F61_L2 k) (some ⟨ib, 0, none⟩) (some ⟨cb, 0, none⟩) 64 cc (some ⟨b0, 0, none⟩) (R.length : Nat) ⟨nb, 0, none⟩ (some ⟨dd, 0, none⟩) 64 dc old 0 w := by
  have hRl := plug_len R (.nd b0 bal l e r)
  have hcl : 1 ≤ (Tr.nd b0 bal l e r).list.length := by simp [Tr.list]; omega
  refine F61_L2_rule (fun im cp cl cc it top dn dp dl dc od i w' => im = some ⟨ib, 0, none⟩ ∧ cp = some ⟨cb, 0, none⟩ ∧ cl = 64 ∧ it = some ⟨b0, 0, none⟩ ∧ top = (R.length : Nat) ∧ dn = ⟨nb, 0, none⟩ ∧ dp = some ⟨dd, 0, none⟩ ∧ dl = 64 ∧ od = old ∧ ∃ (j : Nat) (R' : List Fm) (b' : Nat), i = (j : Nat) ∧ j ≤ R.length ∧ Sim R R' ∧ Cpy w0 ib num T cb dd R' b0 b' bal l e r w' ∧ Blk w' nb 3 [.int .i64 0])
    (fun _ _ _ _ _ top _ _ _ _ _ i _ => (top - i).toNat) ?_ ⟨rfl, rfl, rfl, rfl, rfl, rfl, rfl, rfl, rfl, 0, R, b0, rfl, Nat.zero_le _, Sim.refl R, hC, hN⟩
  rintro im cp cl cc it top dn dp dl dc od i w1 ⟨rfl, rfl, rfl, rfl, rfl, rfl, rfl, rfl, rfl, j, R', b', rfl, hj, hS, h, hN⟩
  have hlen := hS.len
  obtain ⟨vs1, hv1, _⟩ := id h.cac
  obtain ⟨ds1, hd1, _⟩ := id h.dir
  unfold F61_L2
  by_cases hjl : j < R.length
  rotate_left
  · rw [decide_eq_false (by omega)]
    simp only [BIf_false]
    refine F68_call (F68_spec h.ob fun n w2 hn b2 f2 => back_ptr ?_)
    have tc2 := h.tc.2.1.fr0 f2
    have tr2 := h.tc.2.2.fr0 f2
    have C2 := h.cac.fr f2 id
    have D2 := h.dir.fr f2 id
    have N2 := hN.fr f2 id
    have hA : ((Tr.nd n bal l e r).AVL) ∧ (Tr.nd n bal l e r).h = (Tr.nd b0 bal l e r).h := by
      have h0 : (Tr.nd b0 bal l e r).AVL := plug_sub R hav
      exact ⟨⟨h0.1, h0.2.1, h0.2.2⟩, rfl⟩
    have hlt : ∀ b, b ∈ pbs R' ++ (b' :: (l.bs ++ r.bs)) → b < w1.heap.size := fun b hb => by
      rcases List.mem_append.1 hb with hb | hb
      · exact h.pm.lt b hb
      · exact h.tc.lt b (by simpa [Tr.bs] using hb)
    have hw1 : w0.heap.size ≤ w1.heap.size := h.fr.size
    have hcut : Cut w0 ib num T R' (some ⟨b', 0, none⟩) n bal l e r w2 := by
      refine ⟨Blk.fr h.im f2 id, PM.fr f2 h.pm fun _ _ h => h, b2, tc2, tr2, ?_, fun b hb => ?_, (hS.avl hav hA.1 hA.2).1, h.fr.trans f2 fun _ h => h.elim⟩
      · obtain ⟨n1, n2, n3⟩ := List.nodup_append.1 h.nd
        refine List.nodup_append.2 ⟨n1, List.nodup_cons.2 ⟨fun hm => ?_, (List.nodup_cons.1 n2).2⟩, fun a ha b hb => ?_⟩
        · have := hlt n (List.mem_append_right _ (List.mem_cons_of_mem _ hm)); omega
        · rcases List.mem_cons.1 hb with rfl | hb
          · intro hab
            have := hlt a (List.mem_append_left _ ha); omega
          · exact n3 a ha b (List.mem_cons_of_mem _ hb)
      · rcases List.mem_append.1 hb with hb | hb
        · exact h.bk b (List.mem_append_left _ hb)
        · rcases List.mem_cons.1 hb with rfl | hb
          · exact .inr (by omega)
          · exact h.bk b (List.mem_append_right _ (List.mem_cons_of_mem _ hb))
    have hll : (plug R' (.nd n bal l e r)).list.length ≤ 60 := by
      rw [plug_list] at hl ⊢
      rw [hS.inL, hS.inR]; exact hl
    rw [← hS.inL, ← hS.inR] at hk
    try simp only [NN_mk]
    refine ⟨by decide, load_ptr (i := 1) b2 rfl ?_⟩
    have one := fun hlr => cut_one (k := k) (old := od) (cc := cc) (dc := dc) hcut hlr C2 D2 N2 hne hib hcb hdd hnb (by omega) hk
    have two := fun hlr => cut_two (k := k) (old := od) (cc := cc) (dc := dc) hcut hlr C2 D2 N2 hne hib hcb hdd hnb hll hk
    rw [hlen] at one two
    cases l with
    | nil =>
      simp only [Tr.ptr, Option.isNone_none, BIf_true]
      exact one (.inl rfl)
    | nd lb lbal ll le lr =>
      simp only [Tr.ptr, Option.isNone_some, BIf_false]
      try simp only [NN_mk]
      refine ⟨by decide, load_ptr (i := 2) b2 rfl ?_⟩
      cases r with
      | nil => exact one (.inr rfl)
      | nd rb rbal rl re rr => exact two (by simp)
  -- one more copy
  rw [decide_eq_true (by omega)]
  simp only [BIf_true]
  obtain ⟨A, f, B, hR', hA⟩ : ∃ A f B, R' = A ++ f :: B ∧ A.length = j := by
    have hj' : j < R'.length := by omega
    exact ⟨R'.take j, R'[j], R'.drop (j + 1), by rw [List.getElem_cons_drop, List.take_append_drop], by simp; omega⟩
  subst hR'
  have hfj : (A ++ f :: B)[j]? = some f := by rw [← hA]; simp
  try simp only [NN_mk, Int.toNat_natCast]
  refine ⟨by omega, h.cac.load hfj ?_⟩
  refine drw_intro fun w2 f2 z2 => ?_
  have C2 := h.cac.fr f2 id
  have D2 := h.dir.fr f2 id
  have N2 := hN.fr f2 id
  have p2 := PM.fr f2 h.pm fun _ _ h => h
  have t2 := h.tc.fr0 f2
  have o2 := h.ob.fr f2 id
  have i2 := Blk.fr h.im f2 id
  have fr2 : Fr (fun b => b = ib ∨ b ∈ T) w0 w2 := h.fr.trans f2 fun _ h => h.elim
  have pp := p2
  rw [pm_append] at pp
  obtain ⟨pA, hf, hfo, pB⟩ := pp
  try simp only [NN_mk, Int.toNat_natCast]
  refine ⟨by omega, D2.load hfj ?_⟩
  try simp only [NN_mk]
  rw [adr]
  refine ⟨dI_ok f.d, load_ptr hf (ncl_c ..) ?_⟩
  -- the child
  obtain ⟨cb0, hcb0⟩ : ∃ x, hd B (some (⟨b', 0, none⟩ : Addr)) = some ⟨x, 0, none⟩ := by
    cases B with
    | nil => exact ⟨_, rfl⟩
    | cons a B => exact ⟨_, rfl⟩
  rw [hcb0] at hf ⊢
  simp only [Option.isNone_some, Bool.not_false, BIf_true]
  refine drw_intro fun w3 f3 z3 => ?_
  have C3 := C2.fr f3 id
  have D3 := D2.fr f3 id
  have hf3 := hf.fr f3 id
  try simp only [NN_mk, Int.toNat_natCast]
  refine ⟨by omega, D3.load hfj ?_⟩
  try simp only [NN_mk]
  rw [adr]
  refine ⟨dI_ok f.d, load_ptr hf3 (ncl_c ..) ?_⟩
  have f13 : Fr (fun _ => False) w1 w3 := f2.trans f3 fun _ h => h.elim
  -- what is common: the copy n is put below f
  have nds := h.nd
  have lts : ∀ b, b ∈ pbs (A ++ f :: B) ++ (b' :: (l.bs ++ r.bs)) → b < w1.heap.size := fun b hb => by
    rcases List.mem_append.1 hb with hb | hb
    · exact h.pm.lt b hb
    · exact h.tc.lt b (by simpa [Tr.bs] using hb)
  have hw1 : w0.heap.size ≤ w1.heap.size := h.fr.size
  have fbm : f.b ∈ pbs (A ++ f :: B) := mem_b (by simp)
  have common : ∀ (n : Nat) (w4 : World) (Bc : List Fm) (bc : Nat), w3.heap.size ≤ n → Fr (fun _ => False) w3 w4 → Sim B Bc → hd Bc (some (⟨bc, 0, none⟩ : Addr)) = some ⟨n, 0, none⟩ → PM w4 Bc (some ⟨bc, 0, none⟩) → TrM w4 (.nd bc bal l e r) → (∀ b, b ∈ pbs Bc ++ (bc :: (l.bs ++ r.bs)) → b = n ∨ b ∈ pbs B ++ (b' :: (l.bs ++ r.bs))) → (pbs Bc ++ (bc :: (l.bs ++ r.bs))).Nodup → b0 ∉ pbs Bc →
      ∀ K : W, (∀ w6, Blk w6 nb 3 [.int .i64 0] → (∀ P, (∀ (i : Nat) (g : Fm), P[i]? = some g → ∃ g', (A ++ f :: B)[i]? = some g' ∧ g'.b = g.b) → Cac w6 cb P) → (∀ P : List Fm, (∀ (i : Nat) (g : Fm), P[i]? = some g → ∃ g', (A ++ f :: B)[i]? = some g' ∧ g'.d = g.d) → Dir w6 dd P) → (∀ w7, Fr (fun b => b = cb) w6 w7 → Cac w7 cb (A ++ f :: Bc) → Dir w7 dd (A ++ f :: Bc) → Cpy w0 ib num T cb dd (A ++ f :: Bc) b0 bc bal l e r w7 ∧ Blk w7 nb 3 [.int .i64 0]) → K w6) →
      (Chk1 ((⟨dd, 0, none⟩ : Addr).add j) (.int .i64 (dI f.d)) <| Drw <| Req (0 ≤ (j : Int) ∧ (j : Int) < ((64 : Nat) : Int)) <| LoadT (.int .i64) ((⟨dd, 0, none⟩ : Addr).add j) fun x46 => Req (0 ≤ x46 ∧ x46 < (2 : Int)) <| Store1 (((⟨f.b, 0, none⟩ : Addr).add 1).add x46.toNat) (.pointer (some ⟨n, 0, none⟩)) K) w4 := by
    intro n w4 Bc bc hn f4 hSB hhd hpB htc hsub hnd hb0 K hK
    have C4 := C3.fr f4 id
    have D4 := D3.fr f4 id
    refine ⟨D4.cell hfj, ?_⟩
    refine drw_intro fun w5 f5 z5 => ?_
    have C5 := C4.fr f5 id
    have D5 := D4.fr f5 id
    have hf5 := (hf3.fr f4 id).fr f5 id
    have f15 : Fr (fun _ => False) w1 w5 := (f13.trans f4 fun _ h => h.elim).trans f5 fun _ h => h.elim
    refine ⟨by omega, D5.load hfj ⟨dI_ok f.d, ?_⟩⟩
    rw [adr]
    refine store_intro hf5 (by rw [ncl_len]; exact sd_lt f.d) rfl fun w6 b6 f6 z6 => ?_
    rw [ncl_set_c] at b6
    have hft : ∀ {b t us}, Blk w5 b t us → t ≠ 119 → ¬ b = f.b := fun hb ht h => by rw [h] at hb; exact tyne hb hf5 ht
    obtain ⟨vs5, hv5, _⟩ := id C5
    obtain ⟨ds5, hd5, _⟩ := id D5
    have C6 := C5.fr f6 (hft hv5 (by decide))
    have D6 := D5.fr f6 (hft hd5 (by decide))
    have N5 := hN.fr f15 id
    have N6 := N5.fr f6 (hft N5 (by decide))
    have i5 := Blk.fr h.im f15 id
    have i6 := Blk.fr i5 f6 (hft i5 (by decide))
    have hnd1 := h.nd
    rw [pbs_append] at hnd1
    simp only [pbs] at hnd1
    have hndl : ((f.b :: (pbs A ++ f.o.bs)) ++ (pbs B ++ (b' :: (l.bs ++ r.bs)))).Nodup := nodup_of hnd1 fun a => by
      simp only [List.count_append, List.count_cons]; omega
    obtain ⟨m1, m2, m3⟩ := List.nodup_append.1 hndl
    have m1' := m1
    simp only [List.nodup_cons, List.mem_append, not_or] at m1'
    have hfn : n ≠ f.b := fun h' => by have := lts f.b (List.mem_append_left _ fbm); have := f13.size; omega
    have hfin : ∀ b, b ∈ pbs Bc ++ (bc :: (l.bs ++ r.bs)) → b ≠ f.b := fun b hb h' => by
      rcases hsub b hb with h1 | h1
      · exact hfn (h1.symm.trans h')
      · exact m3 f.b (by simp) b h1 h'.symm
    have pB6 : PM w6 Bc (some ⟨bc, 0, none⟩) := (PM.fr f5 hpB fun _ _ h => h).fr f6 fun b hb h => hfin b (List.mem_append_left _ hb) h
    have t6 : TrM w6 (.nd bc bal l e r) := (htc.fr0 f5).fr f6 fun b hb h => hfin b (List.mem_append_right _ (by simpa [Tr.bs] using hb)) h
    have pA6 : PM w6 A (some ⟨f.b, 0, none⟩) := by
      have h1 := h.pm
      rw [pm_append] at h1
      exact (PM.fr f15 h1.1 fun _ _ h => h).fr f6 fun b hb h => m1'.1.1 (by have h : b = f.b := h; exact h ▸ hb)
    have fo6 : TrM w6 f.o := (hfo.fr0 ((f3.trans f4 fun _ h => h.elim).trans f5 fun _ h => h.elim)).fr f6 fun b hb h => m1'.1.2 (by have h : b = f.b := h; exact h ▸ hb)
    have hb0f : b0 ≠ f.b := fun h' => h.bn (h' ▸ fbm)
    have o6 := (h.ob.fr f15 id).fr f6 hb0f
    have fr6 : Fr (fun b => b = ib ∨ b ∈ T) w0 w6 := (h.fr.trans f15 fun _ h => h.elim).trans f6 fun b hb => by
      have hb : b = f.b := hb
      rw [hb]
      exact (h.bk f.b (List.mem_append_left _ fbm)).imp .inr id
    refine hK w6 N6 (fun P hP => C6.sub hP) (fun P hP => D6.sub hP) fun w7 f7 C7 D7 => ?_
    obtain ⟨vs6, hv6, _⟩ := id C6
    have hct : ∀ {b t us}, Blk w6 b t us → t ≠ 115 → ¬ b = cb := fun hb ht h => by rw [h] at hb; exact tyne hb hv6 ht
    have eB : hd (f :: Bc) (some (⟨bc, 0, none⟩ : Addr)) = some ⟨f.b, 0, none⟩ := rfl
    refine ⟨⟨?_, ?_, ?_, o6.fr f7 (hct o6 (by decide)), ?_, ?_, ?_, C7, D7, fr6.trans f7 fun b h => .inr (by have h : b = cb := h; omega)⟩, N6.fr f7 (hct N6 (by decide))⟩
    · have := Blk.fr i6 f7 (hct i6 (by decide))
      rw [hd_append] at this ⊢
      exact this
    · refine PM.fr f7 (R := A ++ f :: Bc) ?_ fun b hb => ?_
      · rw [pm_append, eB]
        exact ⟨pA6, by rw [hhd]; exact b6, fo6, pB6⟩
      · have : PM w6 (A ++ f :: Bc) (some ⟨bc, 0, none⟩) := by rw [pm_append, eB]; exact ⟨pA6, by rw [hhd]; exact b6, fo6, pB6⟩
        obtain ⟨us, hu⟩ := pm_blk this b hb
        exact hct hu (by decide)
    · exact t6.fr f7 fun b hb => by
        obtain ⟨us, hu⟩ := blk_of t6 hb
        exact hct hu (by decide)
    · have : ((f.b :: (pbs A ++ f.o.bs)) ++ (pbs Bc ++ (bc :: (l.bs ++ r.bs)))).Nodup := by
        refine List.nodup_append.2 ⟨m1, hnd, fun a ha b hb hab => ?_⟩
        rcases hsub b hb with h1 | h1
        · have : a < w1.heap.size := lts a (by
            rw [pbs_append]
            simp only [pbs, List.mem_append, List.mem_cons] at ha ⊢
            rcases ha with ha | ha | ha
            · exact .inl (.inr (.inl ha))
            · exact .inl (.inl ha)
            · exact .inl (.inr (.inr (.inl ha))))
          have := f13.size; omega
        · exact m3 a ha b h1 hab
      refine nodup_of this fun a => ?_
      rw [pbs_append]
      simp only [pbs, List.count_append, List.count_cons]; omega
    · intro hm
      have h1 := h.bn
      rw [pbs_append] at hm h1
      simp only [pbs, List.mem_append, List.mem_cons, not_or] at hm h1
      rcases hm with hm | hm | hm | hm
      · exact h1.1 hm
      · exact h1.2.1 hm
      · exact h1.2.2.1 hm
      · exact hb0 hm
    · intro b hb
      rw [pbs_append] at hb
      simp only [pbs, List.mem_append, List.mem_cons, List.append_assoc, List.cons_append] at hb
      have back : b ∈ pbs A ∨ b = f.b ∨ b ∈ f.o.bs ∨ b ∈ pbs B ++ (b' :: (l.bs ++ r.bs)) → b ∈ T ∨ w0.heap.size ≤ b := fun hh => h.bk b (by
        rw [pbs_append]
        simp only [pbs, List.mem_append, List.mem_cons, List.append_assoc, List.cons_append] at hh ⊢
        exact hh)
      have : b ∈ pbs A ∨ b = f.b ∨ b ∈ f.o.bs ∨ b ∈ pbs Bc ++ (bc :: (l.bs ++ r.bs)) := by
        simp only [List.mem_append, List.mem_cons]
        exact hb
      rcases this with h1 | h1 | h1 | h1
      · exact back (.inl h1)
      · exact back (.inr (.inl h1))
      · exact back (.inr (.inr (.inl h1)))
      · rcases hsub b h1 with h2 | h2
        · have := f13.size; exact .inr (by omega)
        · exact back (.inr (.inr (.inr h2)))
  have ndB : (pbs B ++ (b' :: (l.bs ++ r.bs))).Nodup := by
    have h1 := h.nd
    rw [pbs_append] at h1
    simp only [pbs] at h1
    have : ((f.b :: (pbs A ++ f.o.bs)) ++ (pbs B ++ (b' :: (l.bs ++ r.bs)))).Nodup := nodup_of h1 fun a => by
      simp only [List.count_append, List.count_cons]; omega
    exact (List.nodup_append.1 this).2.1
  have ltB : ∀ b, b ∈ pbs B ++ (b' :: (l.bs ++ r.bs)) → b < w3.heap.size := fun b hb => by
    have := lts b (by
      rw [pbs_append]
      simp only [pbs, List.mem_append, List.mem_cons, List.append_assoc, List.cons_append] at hb ⊢
      rcases hb with hb | hb
      · exact .inr (.inr (.inr (.inl hb)))
      · exact .inr (.inr (.inr (.inr hb))))
    have := f13.size; omega
  have b0B : b0 ∉ pbs B := fun hm => h.bn (by rw [pbs_append]; simp [pbs, hm])
  have hAl : (A ++ f :: B).length = R.length := hlen
  simp only [List.length_append, List.length_cons] at hAl
  cases B with
  | nil =>
    cases hcb0
    have hb3 := (h.tc.fr0 f13).1
    refine F68_call (F68_spec hb3 fun n w4 hn b4 f4 => back_ptr ?_)
    try simp only [NN_mk, Int.toNat_natCast]
    have t3 := h.tc.fr0 f13
    refine common n w4 [] n hn f4 .nil rfl trivial ⟨b4, t3.2.1.fr0 f4, t3.2.2.fr0 f4⟩ (fun b hb => ?_) ?_ (by simp [pbs]) _ fun w6 N6 C6 D6 hK => ?_
    · simp only [pbs, List.nil_append, List.mem_cons] at hb ⊢
      rcases hb with hb | hb
      · exact .inl hb
      · exact .inr (.inr hb)
    · simp only [pbs, List.nil_append, List.nodup_cons] at ndB ⊢
      exact ⟨fun hm => by have := ltB n (by simp only [pbs, List.nil_append, List.mem_cons]; exact .inr hm); omega, ndB.2⟩
    · have hlast : ((j : Int) != (subI .i64 ((R.length : Nat) : Int) 1)) = false := by
        have : R.length = j + 1 := by simp at hAl; omega
        rw [this, sub_one (by omega)]; simp
      rw [hlast]
      simp only [BIf_false]
      rw [add_one (by omega)]
      have C7 := C6 (A ++ [f]) fun i g hg => ⟨g, hg, rfl⟩
      have D7 := D6 (A ++ [f]) fun i g hg => ⟨g, hg, rfl⟩
      obtain ⟨a1, a2⟩ := hK w6 (Fr.refl _ _) C7 D7
      exact ⟨⟨(by trivial), (by trivial), (by trivial), (by trivial), (by trivial), (by trivial), (by trivial), (by trivial), (by trivial), j + 1, A ++ [f], n, rfl, by omega, hS, a1, a2⟩, by omega⟩
  | cons g B =>
    cases hcb0
    have pg := PM.fr f3 pB fun _ _ h => h
    obtain ⟨hg, hgo, pB3⟩ := pg
    refine F68_call (F68_nd' hg fun n w4 hn b4 f4 => back_ptr ?_)
    try simp only [NN_mk, Int.toNat_natCast]
    refine common n w4 ({ g with b := n } :: B) b' hn f4 (Sim.swap [] g n B) rfl ⟨b4, hgo.fr0 f4, PM.fr f4 pB3 fun _ _ h => h⟩ ((h.tc.fr0 f13).fr0 f4) (fun b hb => ?_) ?_ ?_ _ fun w6 N6 C6 D6 hK => ?_
    · simp only [pbs, List.cons_append, List.mem_cons] at hb ⊢
      rcases hb with hb | hb
      · exact .inl hb
      · exact .inr (.inr hb)
    · simp only [pbs, List.cons_append, List.nodup_cons] at ndB ⊢
      exact ⟨fun hm => by have := ltB n (by simp only [pbs, List.cons_append, List.mem_cons]; exact .inr hm); omega, ndB.2⟩
    · intro hm
      simp only [pbs, List.mem_cons] at hm b0B
      rcases hm with hm | hm
      · have : b0 < w1.heap.size := h.ob.lt
        have := f13.size; omega
      · exact b0B (.inr hm)
    · have hnl : ((j : Int) != (subI .i64 ((R.length : Nat) : Int) 1)) = true := by
        obtain ⟨m, hm⟩ : ∃ m, R.length = m + 1 := ⟨R.length - 1, by omega⟩
        rw [hm, sub_one (by omega), bne_iff_ne]
        simp only [List.length_cons] at hAl; omega
      rw [hnl]
      simp only [BIf_true]
      rw [add_one (by omega)]
      try simp only [NN_mk, Int.toNat_natCast]
      have C6' := C6 (A ++ f :: g :: B) fun i g hg => ⟨g, hg, rfl⟩
      have eAB : A ++ f :: { g with b := n } :: B = (A ++ [f]) ++ { g with b := n } :: B := by simp
      have eAB' : A ++ f :: g :: B = (A ++ [f]) ++ g :: B := by simp
      have hsw : ∀ (i : Nat) (g' : Fm), (A ++ f :: { g with b := n } :: B)[i]? = some g' → (i = j + 1 ∧ g' = { g with b := n }) ∨ (A ++ f :: g :: B)[i]? = some g' := fun i g' hg' => by
        rw [eAB] at hg'; rw [eAB']
        have := mid_get g { g with b := n } hg'
        simpa [hA] using this
      refine ⟨by omega, C6'.put (A ++ f :: { g with b := n } :: B) (by simp only [List.length_cons] at hAl; omega) (fun i g' hg' => ?_) fun w7 C7 c7 f7 z7 => ?_⟩
      · by_cases hi : i = j + 1
        · refine .inl ⟨hi, ?_⟩
          have : (A ++ f :: { g with b := n } :: B)[j + 1]? = some { g with b := n } := by rw [eAB, ← hA]; simp
          rw [hi, this] at hg'
          cases hg'; rfl
        · rcases hsw i g' hg' with h1 | h1
          · exact absurd h1.1 hi
          · exact .inr ⟨hi, g', h1, rfl⟩
      have D6' := D6 (A ++ f :: { g with b := n } :: B) fun i g' hg' => by
        rcases hsw i g' hg' with ⟨h1, h2⟩ | h1
        · exact ⟨g, by rw [eAB', h1, ← hA]; simp, by rw [h2]⟩
        · exact ⟨g', h1, rfl⟩
      have D7 := D6'.fr f7 fun h' => by
        have h' : dd = cb := h'
        rw [h'] at hd1; exact tyne hd1 hv1 (by decide)
      obtain ⟨a1, a2⟩ := hK w7 f7 C7 D7
      have hS2 : Sim (A ++ f :: g :: B) (A ++ f :: { g with b := n } :: B) := by
        rw [eAB, eAB']; exact Sim.swap _ g n B
      simp only [List.length_cons] at hAl
      exact ⟨⟨(by trivial), (by trivial), (by trivial), (by trivial), (by trivial), (by trivial), (by trivial), (by trivial), (by trivial), j + 1, _, b', rfl, by omega, hS.trans hS2, a1, a2⟩, by omega⟩
end
end Go.Proofs.Ytokejbejoegnnaa.E
