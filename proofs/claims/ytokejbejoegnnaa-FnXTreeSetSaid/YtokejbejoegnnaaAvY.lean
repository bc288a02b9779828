/-
  A deletion, walked: the way down, the whole; entries deleted.
-/
import Derived.Test.YtokejbejoegnnaaAvX
namespace Go.Proofs.Ytokejbejoegnnaa.E
open Go Tr
set_option linter.unusedSimpArgs false
set_option linter.unusedVariables false
set_option maxRecDepth 100000
set_option maxHeartbeats 4000000

theorem und137 : Try.prog.underlying 137 = some (.slice 115) := by kernel_rfl
theorem inf115 : ∃ i, Try.prog.info? 115 = some i ∧ i.zero = some (.pointer none) ∧ i.size = 1 ∧ i.bytes ≤ 4096 := ⟨_, rfl, by kernel_rfl, by kernel_rfl, Nat.le_of_ble_eq_true (by kernel_rfl)⟩
theorem und24' : Try.prog.underlying 24 = some (.slice 3) := by kernel_rfl
theorem inf3' : ∃ i, Try.prog.info? 3 = some i ∧ i.zero = some (.int .i64 0) ∧ i.size = 1 ∧ i.bytes ≤ 4096 := ⟨_, rfl, by kernel_rfl, by kernel_rfl, Nat.le_of_ble_eq_true (by kernel_rfl)⟩
/-- delete. -/
theorem F61_spec {k : Value → W} {w : World} {ib num : Nat} {t : Tr} {e : It2} (hT : TM w 0 ib t num) (hnum : num ≤ 60)
    (hk : ∀ t' v num' w', TM w' 0 ib t' num' → DelL t.list (kx e) t'.list v → (∀ b ∈ t'.bs, b ∈ t.bs ∨ w.heap.size ≤ b) → Fr (fun b => b = ib ∨ b ∈ t.bs) w w' → k (vE v) w') : F61 k (some ⟨ib, 0, none⟩) (encE e) w := by
  unfold F61
  try simp only [NN_mk]
  refine load_ptr (i := 0) hT.im rfl ?_
  have hn0 := hT.num
  have hnot : ∀ {w'}, Fr (fun _ => False) w w' → (∀ y ∈ t.list, kx y ≠ kx e) → k .nilIface w' := fun {w'} f h =>
    hk t none num w' (hT.fr0 f) (.not h) (fun b hb => .inl hb) (f.mono fun _ h => h.elim)
  cases ht : t with
  | nil =>
    simp only [Tr.ptr, Option.isNone_none, BIf_true]
    exact hnot (Fr.refl _ _) (by rw [ht]; intro y hy; cases hy)
  | nd b0 bal0 l0 e00 r0 =>
  rw [← ht]
  have hp : t.ptr = some ⟨b0, 0, none⟩ := by rw [ht]; rfl
  rw [hp]
  simp only [Option.isNone_some, BIf_false]
  obtain ⟨ii, g1, g2, g3, g4⟩ := inf115
  obtain ⟨jj, k1, k2, k3, k4⟩ := inf3'
  refine make_intro (P := Try.prog) 64 64 und137 g1 g2 g3 rfl (by omega) (by omega) (Nat.le_refl _) fun w1 f1 o1 b1 z1 => ?_
  refine new_intro fun n w2 e2 b2 f2 z2 => ?_
  refine make_intro (P := Try.prog) 64 64 und24' k1 k2 k3 rfl (by omega) (by omega) (Nat.le_refl _) fun w3 f3 o3 b3 z3 => ?_
  have f03 := (f1.trans f2 fun _ h => h.elim).trans f3 fun _ h => h.elim
  have T3 := hT.fr0 f03
  generalize hcb : w.heap.size = cb at *
  generalize hdd : w2.heap.size = dd at *
  have hib : ib < cb := by rw [← hcb]; exact hT.im.lt
  have hcn : cb < n := by omega
  have hnd : n < dd := by omega
  have C3 : Cac w3 cb [] := ⟨_, (b1.fr f2 id).fr f3 id, by simp, fun i f h => by cases h⟩
  have D3 : Dir w3 dd [] := ⟨_, b3, by simp, fun i f h => by cases h⟩
  have N3 : Blk w3 n 3 [.int .i64 0] := b2.fr f3 id
  refine load_ptr (i := 0) T3.im rfl ?_
  refine F61_L1_rule (fun im en cp cl cc it top dn dp dl dc w' => im = some ⟨ib, 0, none⟩ ∧ en = encE e ∧ cp = some ⟨cb, 0, none⟩ ∧ cl = 64 ∧ dn = ⟨n, 0, none⟩ ∧ dp = some ⟨dd, 0, none⟩ ∧ dl = 64 ∧ ∃ R c, it = c.ptr ∧ top = (R.length : Nat) ∧ plug R c = t ∧ (∀ x ∈ inL R, kx x < kx e) ∧ (∀ x ∈ inR R, kx e < kx x) ∧ Cac w' cb R ∧ Dir w' dd R ∧ Blk w' n 3 [.int .i64 0] ∧ Fr (fun _ => False) w w')
    (fun _ _ _ _ _ _ top _ _ _ _ _ => (64 - top).toNat) ?_ ⟨rfl, rfl, rfl, rfl, rfl, rfl, rfl, [], t, rfl, rfl, rfl, fun x h => (by cases h), fun x h => (by cases h), C3, D3, N3, f03⟩
  rintro im en cp cl cc it top dn dp dl dc w4 ⟨rfl, rfl, rfl, rfl, rfl, rfl, rfl, R, c, rfl, rfl, hpl, hlo, hup, C4, D4, N4, f4⟩
  have hlen := plug_len R c
  rw [hpl] at hlen
  have hT4 := hT.fr0 f4
  have tr4 := hT4.tr
  have hav := hT.avl
  have hsrt := hT.srt
  have hndt := hT.nd
  rw [← hpl] at tr4 hav hsrt
  rw [trm_plug] at tr4
  obtain ⟨pR, tc⟩ := tr4
  have hlist : t.list = inL R ++ c.list ++ inR R := by rw [← hpl, plug_list]
  have hsub := srt_sub hsrt
  unfold F61_L1
  cases c with
  | nil =>
    simp only [Tr.ptr, Option.isNone_none, BIf_true]
    refine hnot f4 fun y hy => ?_
    rw [hlist] at hy
    simp only [Tr.list, List.append_nil, List.mem_append] at hy
    rcases hy with hy | hy
    · have := hlo y hy; omega
    · have := hup y hy; omega
  | nd b bal l e0 r =>
    have hcl : 1 ≤ (Tr.nd b bal l e0 r).list.length := by simp [Tr.list]; omega
    have htop : R.length + 1 ≤ 60 := by omega
    simp only [Tr.ptr, Option.isNone_some, BIf_false, NN_mk]
    obtain ⟨hb, hl, hr⟩ := tc
    refine load_any (i := 3) hb rfl ?_
    refine cmpE fun w5 f5 => ?_
    have f05 := f4.trans f5 fun _ h => h.elim
    have C5 := C4.fr f5 id
    have D5 := D4.fr f5 id
    have N5 := N4.fr f5 id
    have hb5 := hb.fr f5 id
    rw [show (Tr.nd b bal l e0 r).list = l.list ++ e0 :: r.list from rfl] at hsub hlist
    obtain ⟨sl, sr, _⟩ := srt_mid hsub
    -- one step down
    have go : ∀ (d : Bool) (c' o : Tr), Tr.nd b bal l e0 r = nd' d b bal e0 c' o → (d = true → kx e0 < kx e) → (d = false → kx e < kx e0) →
        ∀ K : Option Addr → W, (∀ w', plug (R ++ [⟨b, bal, d, e0, o⟩]) c' = t → (∀ x ∈ inL (R ++ [⟨b, bal, d, e0, o⟩]), kx x < kx e) → (∀ x ∈ inR (R ++ [⟨b, bal, d, e0, o⟩]), kx e < kx x) → Cac w' cb (R ++ [⟨b, bal, d, e0, o⟩]) → Dir w' dd (R ++ [⟨b, bal, d, e0, o⟩]) → Blk w' n 3 [.int .i64 0] → Fr (fun _ => False) w w' → K c'.ptr w') →
        (Req (0 ≤ ((R.length : Nat) : Int) ∧ ((R.length : Nat) : Int) < ((64 : Nat) : Int)) <| Store1 ((⟨dd, 0, none⟩ : Addr).add R.length) (.int .i64 (dI d)) <| Req (0 ≤ ((R.length : Nat) : Int) ∧ ((R.length : Nat) : Int) < ((64 : Nat) : Int)) <| Store1 ((⟨cb, 0, none⟩ : Addr).add R.length) (.pointer (some ⟨b, 0, none⟩)) <| Req (0 ≤ dI d ∧ dI d < (2 : Int)) <| LoadT .ptr (((⟨b, 0, none⟩ : Addr).add 1).add (dI d).toNat) K) w5 := by
      intro d c' o heq hd1 hd2 K hK
      generalize hf : (⟨b, bal, d, e0, o⟩ : Fm) = f at *
      refine ⟨by omega, D5.put (R ++ [f]) (by omega) (fun i g h => (snoc_put i g h).imp (fun h => ⟨h.1, by rw [h.2, ← hf]⟩) fun h => ⟨h.1, g, h.2, rfl⟩) fun w6 D6 f6 z6 => ?_⟩
      obtain ⟨vs, hvs, _⟩ := id C5
      obtain ⟨ds, hds, _⟩ := id D5
      have C6 := C5.fr f6 fun h => by
        have h : cb = dd := h
        omega
      refine ⟨by omega, C6.put (R ++ [f]) (by omega) (fun i g h => (snoc_put i g h).imp (fun h => ⟨h.1, by rw [h.2, ← hf]⟩) fun h => ⟨h.1, g, h.2, rfl⟩) fun w7 C7 c7 f7 z7 => ?_⟩
      have D7 := D6.fr f7 fun h => by
        have h : dd = cb := h
        omega
      have f57 : Fr (fun b => b = cb ∨ b = dd) w5 w7 := (f6.mono fun b h => .inl (.inr h)).trans f7 fun b h => .inl (.inl h)
      have hbs : ¬ (b = cb ∨ b = dd) := by
        rintro (h | h)
        · rw [h] at hb5; exact tyne hb5 hvs (by decide)
        · rw [h] at hb5; exact tyne hb5 hds (by decide)
      have hb7 := hb5.fr f57 hbs
      have hN7 := N5.fr f57 fun h => by rcases h with h | h <;> omega
      have hb7' : Blk w7 b 119 (ncl d bal e0 c'.ptr o.ptr) := by
        have h1 : TrM w4 (Tr.nd b bal l e0 r) := ⟨hb, hl, hr⟩
        rw [heq, trm_nd'] at h1
        exact (h1.1.fr f5 id).fr f57 hbs
      rw [adr]
      refine ⟨dI_ok d, load_ptr hb7' (ncl_c ..) ?_⟩
      have f07 : Fr (fun _ => False) w w7 := f05.trans f57 fun b h => .inr (by rcases h with h | h <;> omega)
      have hlst : (nd' d b bal e0 c' o).list = l.list ++ e0 :: r.list := by rw [← heq]; rfl
      rw [list_nd'] at hlst
      refine hK w7 ?_ ?_ ?_ C7 D7 hN7 f07
      · rw [plug_append, ← hpl, ← hf]
        show plug R (nd' d b bal e0 c' o) = _
        rw [← heq]
      · intro x hx
        rw [inL_append] at hx
        rcases List.mem_append.1 hx with hx | hx
        · exact hlo x hx
        · simp only [inL, ← hf, List.append_nil] at hx
          cases d with
          | false => cases hx
          | true =>
            have hlt := hd1 rfl
            simp only [cond_true, List.mem_append, List.mem_singleton] at hx
            simp only [lst, cond_true] at hlst
            rw [← hlst] at hsub
            obtain ⟨s1, _⟩ := srt_mid hsub
            rcases hx with hx | hx
            · have := s1 x hx; omega
            · rw [hx]; exact hlt
      · intro x hx
        rw [inR_append] at hx
        rcases List.mem_append.1 hx with hx | hx
        · simp only [inR, ← hf, List.nil_append] at hx
          cases d with
          | true => cases hx
          | false =>
            have hlt := hd2 rfl
            simp only [cond_false, List.mem_cons] at hx
            simp only [lst, cond_false] at hlst
            rw [← hlst] at hsub
            obtain ⟨_, s1, _⟩ := srt_mid hsub
            rcases hx with hx | hx
            · rw [hx]; exact hlt
            · have := s1 x hx; omega
        · exact hup x hx
    rcases Int.lt_trichotomy (kx e0) (kx e) with hlt | heq | hgt
    · have hc : cmpI (kx e0) (kx e) = -1 := by unfold cmpI; rw [if_pos hlt]
      rw [show (cmpI (kx e0) (kx e) == 0) = false by rw [hc]; rfl]
      simp only [BIf_false]
      refine F71_call (F71_spec (back_int ?_))
      rw [if_pos hlt]
      refine go true r l rfl (fun _ => hlt) (fun h => by cases h) _ fun w' h1 h2 h3 h4 h5 h6 h7 => ?_
      rw [add_one (by omega)]
      exact ⟨⟨(by trivial), (by trivial), (by trivial), (by trivial), (by trivial), (by trivial), (by trivial), _, r, rfl, by simp, h1, h2, h3, h4, h5, h6, h7⟩, by omega⟩
    · have hc : cmpI (kx e0) (kx e) = 0 := by unfold cmpI; rw [if_neg (by omega), if_neg (by omega)]
      rw [hc]
      simp only [show ((0 : Int) == 0) = true from rfl, BIf_true, NN_mk]
      have im5 := (hT.fr0 f05).im
      refine load_int (i := 1) im5 rfl ?_
      refine store_intro (i := 1) im5 (by simp) rfl fun w6 im6 f6 z6 => ?_
      have hit : ∀ {b t us}, Blk w5 b t us → t ≠ 121 → ¬ b = ib := fun hb ht h => by rw [h] at hb; exact tyne hb im5 ht
      obtain ⟨vs, hvs, _⟩ := id C5
      obtain ⟨ds, hds, _⟩ := id D5
      have hb6 := hb5.fr f6 (hit hb5 (by decide))
      refine load_any (i := 3) hb6 rfl ?_
      have hTt : ∀ {s : Tr}, TrM w4 s → TrM w6 s := fun hs => (hs.fr0 f5).fr f6 fun b hb => by
        obtain ⟨us, hu⟩ := blk_of (hs.fr0 f5) hb
        exact hit hu (by decide)
      have hPt : PM w6 R (some ⟨b, 0, none⟩) := by
        have p5 := PM.fr f5 pR fun _ _ h => h
        exact PM.fr f6 p5 fun b hb => by
          obtain ⟨us, hu⟩ := pm_blk p5 b hb
          exact hit hu (by decide)
      have hn1 : 1 ≤ num := by rw [hT.num, hlist]; simp; omega
      have hsubI : subI .u64 ((num : Nat) : Int) 1 = ((num - 1 : Nat) : Int) := by rw [subI_u64 (by omega) (by omega)]; omega
      rw [hsubI] at im6
      have hmem : ∀ x, x ∈ pbs R ++ (b :: (l.bs ++ r.bs)) ↔ x ∈ t.bs := fun x => by
        rw [← hpl, ← List.count_pos_iff, ← List.count_pos_iff, cnt_plug]; rfl
      have hnds : (pbs R ++ (b :: (l.bs ++ r.bs))).Nodup := nodup_of hndt fun a => by rw [← hpl, cnt_plug]; rfl
      have hroot : hd R (some (⟨b, 0, none⟩ : Addr)) = t.ptr := by rw [← hpl, plug_ptr]; rfl
      have f06 : Fr (fun b => b = ib ∨ b ∈ t.bs) w w6 := (f05.mono fun _ h => h.elim).trans f6 fun b h => .inl (.inl h)
      refine del_copy (w0 := w) (num := num - 1) (T := t.bs) (nb := n) ⟨by rw [hroot]; exact im6, hPt, ⟨hb6, hTt hl, hTt hr⟩, hb6, hnds, ?_, fun x hx => .inl ((hmem x).1 hx), C5.fr f6 (hit hvs (by decide)), D5.fr f6 (hit hds (by decide)), f06⟩ hav (N5.fr f6 (hit N5 (by decide))) (by omega) (by omega) (by omega) (by omega) (by omega) (by rw [hpl]; omega) fun w' hD => ?_
      · exact fun hm => (List.nodup_append.1 hnds).2.2 b hm b (by simp) rfl
      · obtain ⟨t', a1, a2, a3, a4, a5, a6, a7⟩ := hD
        have hdel : DelL t.list (kx e) t'.list (some e0) := by
          rw [a4, hlist]
          have := DelL.gone (L := inL R ++ (l.list ++ e0 :: r.list) ++ inR R) (q := kx e) (A := inL R ++ l.list) (B := r.list ++ inR R) (x := e0) (by simp) heq
          simpa using this
        have hlk := hdel.look hT.srt
        refine hk t' (some e0) (num - 1) w' ⟨a1, a2, a3, hlk.2.2.2, a5, ?_, fun _ _ => Nat.zero_le _, Nat.zero_le _⟩ hdel (by rw [← hcb]; exact a6) a7
        have := hlk.2.2.1
        rw [if_neg (by simp)] at this
        omega
    · have hc : cmpI (kx e0) (kx e) = 1 := by unfold cmpI; rw [if_neg (by omega), if_pos hgt]
      rw [show (cmpI (kx e0) (kx e) == 0) = false by rw [hc]; rfl]
      simp only [BIf_false]
      refine F71_call (F71_spec (back_int ?_))
      rw [if_neg (by omega), if_pos hgt]
      refine go false l r rfl (fun h => by cases h) (fun _ => hgt) _ fun w' h1 h2 h3 h4 h5 h6 h7 => ?_
      rw [add_one (by omega)]
      exact ⟨⟨(by trivial), (by trivial), (by trivial), (by trivial), (by trivial), (by trivial), (by trivial), _, l, rfl, by simp, h1, h2, h3, h4, h5, h6, h7⟩, by omega⟩

inductive DelAll : List It2 → List It2 → List It2 → List (Option It2) → Prop
  | nil {L : List It2} : DelAll L [] L []
  | snoc {L es L1 L2 : List It2} {vs : List (Option It2)} {e : It2} {v : Option It2} : DelAll L es L1 vs → DelL L1 (kx e) L2 v → DelAll L (es ++ [e]) L2 (vs ++ [v])
theorem DelAll.len {L es L' : List It2} {vs : List (Option It2)} (h : DelAll L es L' vs) (hL : Srt L) : Srt L' ∧ L'.length ≤ L.length ∧ vs.length = es.length := by
  induction h with
  | nil => exact ⟨hL, Nat.le_refl _, rfl⟩
  | @snoc es L1 L2 vs e v h1 h2 ih =>
    obtain ⟨a, b, c⟩ := ih
    have := h2.look a
    exact ⟨this.2.2.2, by omega, by simp [c]⟩
/-- Delete. -/
theorem F44_spec {k : Value → W} {w : World} {ib num : Nat} {t : Tr} {p : Option Addr} {c : Nat} {es : List It2} (hT : TM w 0 ib t num) (hE : EIts w p es) (hp : ∀ b, bl p b → b ≠ ib ∧ b ∉ t.bs ∧ b < w.heap.size) (h0 : 0 < es.length) (hb : es.length < 100000) (hn : num ≤ 60)
    (hk : ∀ ib' t' num' vs q c' w', TM w' 0 ib' t' num' → w.heap.size ≤ ib' → DelAll t.list es t'.list vs → (∀ b ∈ t'.bs, b ∈ t.bs ∨ w.heap.size ≤ b) → Own w' 93 q es.length c' (vs.map vE) → (∀ b, bl q b → w.heap.size ≤ b) → Fr (fun b => b ∈ t.bs) w w' → k (.tuple #[.pointer (some ⟨ib', 0, none⟩), .slice q es.length c']) w') : F44 k (some ⟨ib, 0, none⟩) p es.length c w := by
  unfold F44
  rw [show (((es.length : Nat) : Int) == 0) = false by rw [beq_eq_false_iff_ne]; omega]
  simp only [BIf_false]
  obtain ⟨ii, hi1, hi2, hi3, hi4⟩ := inf93
  refine make_intro (P := Try.prog) 0 es.length und71 hi1 hi2 hi3 rfl (by omega) (by omega) (Nat.zero_le _) fun w1 f1 o1 b1 z1 => ?_
  refine F59_call (F59_spec (base := w1.heap.size) (hT.fr0 f1) (Nat.le_refl _) fun ib' t0 w2 T2 hl2 hs2 f2 => back_ptr ?_)
  have hib' := T2.ibb
  have hz2 := f2.size
  have hnum := hT.num
  refine F44_L1_rule (fun op ol oc im sp sl sc x9 x10 w' => op = some ⟨w.heap.size, 0, none⟩ ∧ oc = es.length ∧ im = some ⟨ib', 0, none⟩ ∧ sp = p ∧ sl = es.length ∧ x9 = (es.length : Nat) ∧ ∃ (i : Nat) (t' : Tr) (num' : Nat) (vs : List (Option It2)), x10 = i ∧ i ≤ es.length ∧ ol = i ∧ TM w' 0 ib' t' num' ∧ DelAll t.list (es.take i) t'.list vs ∧ (∀ b ∈ t'.bs, b ∈ t.bs ∨ w.heap.size ≤ b) ∧ Own w' 93 (some ⟨w.heap.size, 0, none⟩) i es.length (vs.map vE) ∧ Fr (fun b => b ∈ t.bs) w w')
    (fun _ _ _ _ _ _ _ x9 x10 _ => (x9 - x10).toNat) ?_ ⟨rfl, rfl, rfl, rfl, rfl, rfl, 0, t0, num, [], rfl, Nat.zero_le _, rfl, T2.weak, by rw [hl2]; exact .nil, fun b hb => (hs2 b hb).imp id fun h => by have := f1.size; omega, o1.fr f2 fun _ _ h => h, (f1.trans f2 fun _ h => h.elim).mono fun _ h => h.elim⟩
  rintro op ol oc im sp sl sc x9 x10 w3 ⟨rfl, rfl, rfl, e1, e2, rfl, i, t', num', vs, rfl, hi, e3, T3, I3, B3, o3, f3⟩
  obtain rfl := e1.symm; obtain rfl := e2.symm; obtain rfl := e3.symm
  unfold F44_L1
  by_cases hil : i < es.length
  rotate_left
  · have : i = es.length := by omega
    subst this
    rw [decide_eq_false (by omega)]
    rw [List.take_length] at I3
    simp only [BIf_false]
    exact hk ib' t' num' vs _ _ w3 T3 (by omega) I3 B3 o3 (fun b ⟨a, h, e⟩ => by cases h; exact Nat.le_of_eq e) f3
  rw [decide_eq_true (by omega)]
  have hget : es[i]? = some (es[i]'(by omega)) := List.getElem?_eq_getElem _
  generalize es[i]'(by omega) = x at hget
  obtain ⟨a, rfl, c1⟩ := hE.fr f3 (fun b hb => (hp b hb).2.1) i x hget
  simp only [BIf_true, NN_mk, Int.toNat_natCast]
  refine ⟨by omega, LoadT_any.2 ⟨_, c1, ?_⟩⟩
  have hlen := I3.len hT.srt
  have hn3 := T3.num
  have hs3 := f3.size
  have hov : ∀ b ∈ t'.bs, ¬ b = w.heap.size := fun b hb e => by
    obtain ⟨us, hu⟩ := blk_of T3.tr hb
    obtain ⟨vs', hv⟩ := o3.blk (b := w.heap.size) ⟨_, rfl, rfl⟩
    rw [e] at hu
    exact absurd (hu.unique hv).1 (by decide)
  refine F61_call (F61_spec T3 (by omega) fun t2 v num2 w4 T4 I4 B4 f4 => ?_)
  have hni : w.heap.size ≠ ib' := by omega
  have o4 : Own w4 93 (some ⟨w.heap.size, 0, none⟩) i es.length (vs.map vE) := o3.fr f4 fun b ⟨a, h, e⟩ hb => by
    cases h
    have e : w.heap.size = b := e
    rcases hb with hb | hb
    · omega
    · exact hov b hb e.symm
  refine back_any ?_
  refine append1_room (P := Try.prog) und71 hi1 hi2 hi3 rfl o4 (vE_one v) (vE_cells v) (by omega) fun w5 f5 o5 => ?_
  rw [add_one (by omega)]
  have T5 : TM w5 0 ib' t2 num2 := by
    have hov : ∀ b ∈ t2.bs, ¬ b = w.heap.size := fun b hb e => by
      obtain ⟨us, hu⟩ := blk_of T4.tr hb
      obtain ⟨vs', hv⟩ := o4.blk (b := w.heap.size) ⟨_, rfl, rfl⟩
      rw [e] at hu
      exact absurd (hu.unique hv).1 (by decide)
    exact ⟨Blk.fr T4.im f5 fun e => by have : ib' = w.heap.size := e; omega, T4.tr.fr f5 hov, T4.avl, T4.srt, T4.nd, T4.num, T4.root, T4.ibb⟩
  have f35 : Fr (fun b => b ∈ t.bs) w w5 := (f3.trans f4 fun b hb => by
    rcases hb with hb | hb
    · exact .inr (by omega)
    · exact B3 b hb).trans f5 fun b hb => .inr (by have : b = w.heap.size := hb; omega)
  refine ⟨⟨(by trivial), (by trivial), (by trivial), (by trivial), (by trivial), (by trivial), i + 1, t2, num2, vs ++ [v], rfl, by omega, (by trivial), T5, ?_, fun b hb => (B4 b hb).elim (fun h => B3 b h) fun h => .inr (by omega), ?_, f35⟩, by omega⟩
  · rw [take_snoc hget]; exact .snoc I3 I4
  · rw [List.map_append]; exact o5
end Go.Proofs.Ytokejbejoegnnaa.E
