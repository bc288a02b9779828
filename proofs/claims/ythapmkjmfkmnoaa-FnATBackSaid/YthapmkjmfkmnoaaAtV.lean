/-
  Interval trees: intervals by moves; copies; lists of lists; lists of numbers compared.
-/
import Derived.Test.YthapmkjmfkmnoaaAtU
namespace Go.Proofs.Ythapmkjmfkmnoaa.E
open Go
set_option linter.unusedSimpArgs false
set_option linter.unusedVariables false
set_option maxRecDepth 100000
set_option maxHeartbeats 8000000

/-- An interval of some dimensions. -/
def Dim (n : Nat) (x : Sp) : Prop := x.lows.length = n ∧ x.highs.length = n
theorem Dim.shrt {n : Nat} {x : Sp} (h : Dim n x) (hn : n ≤ 3) : Shrt x := ⟨by rw [h.1]; omega, by rw [h.2]; omega⟩
section
variable {w : World} {k : Value → W}
theorem back_sp {f : Option Addr → Nat → Nat → Option Addr → Nat → Nat → Int → W} {p q : Option Addr} {l c m d : Nat} {n : Int} (h : f p l c q m d n w) : Back (.s (.agg [.slice, .slice, (.int .u64)])) f (.returned (.agg #[.slice p l c, .slice q m d, .int .u64 n])) w := ⟨((p, l, c), (q, m, d), n, ()), rfl, h⟩
/-- atIn. -/
theorem F6_spec {p q : Option Addr} {c d n : Nat} {iid : Int} {lows highs : List Int} (hn1 : 1 ≤ n) (hn : n ≤ 3) (hl : lows.length = n) (hh : highs.length = n) (h1 : Sl IntK w p lows) (h2 : Sl IntK w q highs)
    (hk : ∀ w' p' c' q' d', Sl IntK w' p' lows → Sl IntK w' q' highs → Fr (fun _ => False) w w' → k (.agg #[.slice p' n c', .slice q' n d', .int .u64 iid]) w') :
    F6 k p n c q n d iid w := by
  have l0 : lows ≠ [] := fun e => by rw [e] at hl; simp at hl; omega
  have h0 : highs ≠ [] := fun e => by rw [e] at hh; simp at hh; omega
  unfold F6
  refine new_intro fun n4 w1 e1 b1 f1 z1 => new_intro fun n5 w2 e2 b2 f2 z2 => ?_
  have b1 := b1.fr f2 id
  refine drw_intro fun w3 f3 z3 => ?_
  have b1 := b1.fr f3 id
  have b2 := b2.fr f3 id
  have f03 : Fr (fun _ => False) w w3 := (f1.trans f2 fun _ h => h.elim).trans f3 fun _ h => h.elim
  have h1 := h1.fr0 f03
  have h2 := h2.fr0 f03
  have z03 := f03.size
  refine load_slice (i := 0) b1 rfl (load_slice (i := 1) b1 rfl (load_int (i := 2) b1 rfl ?_))
  have fin : ∀ (wz : World) (p' q' : Option Addr) (c' d' : Nat), Blk wz n5 30 [.slice none 0 0, .slice none 0 0, .int .u64 0] → Sl IntK wz p' lows → Sl IntK wz q' highs → Fr (fun _ => False) w wz →
      (Store1 ⟨n5, 0, none⟩ (.slice p' n c') <|
       Store1 ⟨n5, 1, none⟩ (.slice q' n d') <|
       Store1 ⟨n5, 2, none⟩ (.int .u64 iid) <|
       LoadT .slice ⟨n5, 0, none⟩ fun s13p s13l s13c =>
       LoadT .slice ⟨n5, 1, none⟩ fun s14p s14l s14c =>
       LoadT (.int .u64) ⟨n5, 2, none⟩ fun x15 =>
       k (.agg #[.slice s13p s13l s13c, .slice s14p s14l s14c, .int .u64 x15])) wz := fun wz p' q' c' d' bz s1 s2 fz => by
    refine store_intro (i := 0) bz (by simp) rfl fun w6 b6 f6 z6 => ?_
    refine store_intro (i := 1) b6 (by simp) rfl fun w7 b7 f7 z7 => ?_
    refine store_intro (i := 2) b7 (by simp) rfl fun w8 b8 f8 z8 => ?_
    have b8 : Blk w8 n5 30 [.slice p' n c', .slice q' n d', .int .u64 iid] := b8
    refine load_slice (i := 0) b8 rfl (load_slice (i := 1) b8 rfl (load_int (i := 2) b8 rfl ?_))
    have f' : Fr (fun x => x = n5) wz w8 := (f6.trans f7 fun _ h => .inl h).trans f8 fun _ h => .inl h
    have T : Tys (fun x => x = n5) wz [30] := Tys.one bz
    exact hk w8 p' c' q' d' (s1.fr f' T (by decide)) (s2.fr f' T (by decide)) (fz.trans f' fun b hb => .inr (by have hb : b = n5 := hb; omega))
  -- one list is made: what it leaves
  have keep : ∀ {wa wb : World} {m : Nat} {t : TypeId} {b : Nat} {vs : List Value}, Fr (fun x => x = m) wa wb → Blk wa m 2 [] → Blk wa b t vs → t ≠ 2 → Blk wb b t vs := fun f hm hb ht => hb.fr f fun e => by
    have e : _ = _ := e
    rw [e] at hb
    exact ht (hb.unique hm).1
  have keepS : ∀ {wa wb : World} {m : Nat} {a : Option Addr} {xs : List Int}, Fr (fun x => x = m) wa wb → Blk wa m 2 [] → Sl IntK wa a xs → xs ≠ [] → Sl IntK wb a xs := fun {wa wb m a xs} f hm hs h0 => by
    rcases hs with h | ⟨q, o, us, e, hB, hR⟩
    · exact .inl h
    · refine .inr ⟨q, o, us, e, hB.fr f fun e' => ?_, hR.fr f fun b u us' hb hu => by simp [IntK]⟩
      have e' : q = m := e'
      subst e'
      have := (hB.unique hm).2
      subst this
      have hx : xs[0]? = some (xs[0]'(List.length_pos_iff.2 h0)) := List.getElem?_eq_getElem _
      have h3 := hR 0 _ hx
      have h3 : ([] : List Value)[o + 0 * 1 + 0]? = some (.int .i64 _) := h3
      simp at h3
  refine ⟨?_, ?_⟩
  · refine bld_none fun m1 w4 e4 f4 c4 z4 => ?_
    have b1 := b1.fr f4 id
    have b2 := b2.fr f4 id
    refine chk (i := 2) b1 rfl (chk (i := 1) b1 rfl (chk (i := 0) b1 rfl ⟨?_, ?_⟩))
    · refine app_copy c4 (h1.fr0 f4) l0 (by omega) hl.symm fun p' c' w5 f5 s5 => ?_
      have b1 := keep f5 c4 b1 (by decide)
      have b2 := keep f5 c4 b2 (by decide)
      refine chk (i := 2) b1 rfl (chk (i := 1) b1 rfl ?_)
      refine bld_none fun m2 w6 e6 f6 c6 z6 => ?_
      have b1 := b1.fr f6 id
      have b2 := b2.fr f6 id
      refine chk (i := 2) b1 rfl (chk (i := 1) b1 rfl (chk (i := 0) b1 rfl ?_))
      have h26 := (keepS f5 c4 (h2.fr0 f4) h0).fr0 f6
      refine app_copy c6 h26 h0 (by omega) hh.symm fun q' d' w7 f7 s7 => ?_
      have b1 := keep f7 c6 b1 (by decide)
      have b2 := keep f7 c6 b2 (by decide)
      refine chk (i := 2) b1 rfl (chk (i := 0) b1 rfl ?_)
      have s57 := keepS f7 c6 (s5.fr0 f6) l0
      have z4' := f4.size
      have z5' := f5.size
      exact fin w7 p' q' c' d' b2 s57 s7 ((((f03.trans f4 fun _ h => h.elim).trans f5 fun b hb => .inr (by have hb : b = m1 := hb; omega)).trans f6 fun _ h => h.elim).trans f7 fun b hb => .inr (by have hb : b = m2 := hb; omega))
    · refine bld_none fun m2 w5 e5 f5 c5 z5 => ?_
      have b1 := b1.fr f5 id
      have b2 := b2.fr f5 id
      have c4 := c4.fr f5 id
      refine chk (i := 2) b1 rfl (chk (i := 1) b1 rfl (chk (i := 0) b1 rfl ?_))
      refine app_copy c4 ((h1.fr0 f4).fr0 f5) l0 (by omega) hl.symm fun p' c' w6 f6 s6 => ?_
      have b1 := keep f6 c4 b1 (by decide)
      have b2 := keep f6 c4 b2 (by decide)
      have c5 := c5.fr f6 fun e => by have e : m2 = m1 := e; omega
      refine chk (i := 2) b1 rfl (chk (i := 1) b1 rfl ?_)
      have h26 := keepS f6 c4 ((h2.fr0 f4).fr0 f5) h0
      refine app_copy c5 h26 h0 (by omega) hh.symm fun q' d' w7 f7 s7 => ?_
      have b1 := keep f7 c5 b1 (by decide)
      have b2 := keep f7 c5 b2 (by decide)
      refine chk (i := 2) b1 rfl (chk (i := 0) b1 rfl ?_)
      have s67 := keepS f7 c5 s6 l0
      exact fin w7 p' q' c' d' b2 s67 s7 ((((f03.trans f4 fun _ h => h.elim).trans f5 fun _ h => h.elim).trans f6 fun b hb => .inr (by have hb : b = m1 := hb; omega)).trans f7 fun b hb => .inr (by have hb : b = m2 := hb; omega))
  · refine bld_none fun m1 w4 e4 f4 c4 z4 => ?_
    have b1 := b1.fr f4 id
    have b2 := b2.fr f4 id
    refine chk (i := 2) b1 rfl (chk (i := 1) b1 rfl (chk (i := 0) b1 rfl ?_))
    refine bld_none fun m2 w5 e5 f5 c5 z5 => ?_
    have b1 := b1.fr f5 id
    have b2 := b2.fr f5 id
    have c4 := c4.fr f5 id
    refine chk (i := 2) b1 rfl (chk (i := 1) b1 rfl (chk (i := 0) b1 rfl ?_))
    refine app_copy c5 ((h1.fr0 f4).fr0 f5) l0 (by omega) hl.symm fun p' c' w6 f6 s6 => ?_
    have b1 := keep f6 c5 b1 (by decide)
    have b2 := keep f6 c5 b2 (by decide)
    have c4 := c4.fr f6 fun e => by have e : m1 = m2 := e; omega
    refine chk (i := 2) b1 rfl (chk (i := 1) b1 rfl ?_)
    have h26 := keepS f6 c5 ((h2.fr0 f4).fr0 f5) h0
    refine app_copy c4 h26 h0 (by omega) hh.symm fun q' d' w7 f7 s7 => ?_
    have b1 := keep f7 c4 b1 (by decide)
    have b2 := keep f7 c4 b2 (by decide)
    refine chk (i := 2) b1 rfl (chk (i := 0) b1 rfl ?_)
    have s67 := keepS f7 c4 s6 l0
    exact fin w7 p' q' c' d' b2 s67 s7 ((((f03.trans f4 fun _ h => h.elim).trans f5 fun _ h => h.elim).trans f6 fun b hb => .inr (by have hb : b = m2 := hb; omega)).trans f7 fun b hb => .inr (by have hb : b = m1 := hb; omega))
theorem fill32 (p : Option Addr) (l c : Nat) (q : Option Addr) (m d : Nat) (i : Int) : ∀ i' : TypeInfo, i'.size = 3 → Instr.fill (fun j => some (j * i'.size, i'.size)) ((Array.range (1 * i'.size)).map (z30.cells[· % z30.cells.size]!)) [(0, .agg #[.slice p l c, .slice q m d, .int .u64 i])] = some [.slice p l c, .slice q m d, .int .u64 i].toArray := fill30 p l c q m d i
/-- deepSpans. -/
theorem F5_spec {n : Nat} {p : Option Addr} {c : Nat} {rs : List (Nat → Int)} (hn1 : 1 ≤ n) (hn : n ≤ 3) (h : Mvs .i8 w p rs) (hl : rs.length < 4000000000)
    (hk : ∀ w' p' c' xs, Sl (SpK 32) w' p' xs → xs.length ≤ c' → (∀ x ∈ xs, Dim n x) → (xs.map Sp.id).Nodup → xs.length ≤ 30 → Fr (fun _ => False) w w' → k (.slice p' xs.length c') w') : F5 k ((n : Nat) : Int) p rs.length c w := by
  obtain ⟨i32, g1, g2, g3, g4⟩ := inf32
  unfold F5
  refine F5_L1_rule (I := fun dn mp ml mc op ol oc i w' => dn = ((n : Nat) : Int) ∧ mp = p ∧ ml = rs.length ∧ mc = c ∧ ∃ (t : Nat) (xs : List Sp), i = ((t : Nat) : Int) ∧ t ≤ rs.length ∧ t ≤ 30 ∧ xs.length = t ∧ SlO (SpK 32) w' op ol oc xs ∧ (∀ x ∈ xs, Dim n x ∧ x.id ≤ t) ∧ (xs.map Sp.id).Nodup ∧ (∀ b, bl op b → w.heap.size ≤ b) ∧ Fr (fun _ => False) w w')
    (μ := fun dn mp ml mc op ol oc i w' => rs.length - i.toNat) ?_ ⟨rfl, rfl, rfl, rfl, 0, [], rfl, Nat.zero_le _, Nat.zero_le _, rfl, SlO.nil _ _, fun x hx => (by cases hx), List.nodup_nil, (fun b ⟨_, h, _⟩ => by cases h), Fr.refl _ _⟩
  rintro dn mp ml mc op ol oc i w1 ⟨rfl, e1, e2, e3, t, xs, rfl, ht, ht30, hxl, O1, hx, hnd, hop, f1⟩
  obtain rfl := e1.symm
  obtain rfl := e3.symm
  have hol := O1.len
  unfold F5_L1
  rw [e2]
  have hz1 := f1.size
  have done : k (.slice op ol oc) w1 := by
    subst hol
    exact hk w1 op oc xs O1.sl O1.le.1 (fun x h => (hx x h).1) hnd (by omega) f1
  by_cases hlt : t < rs.length
  · rw [decide_eq_true (show ((t : Nat) : Int) < ((rs.length : Nat) : Int) by omega), BIf_true]
    by_cases h30 : t < 30
    · rw [decide_eq_true (show ((t : Nat) : Int) < 30 by omega), BIf_true]
      have hr : rs[t]? = some rs[t] := List.getElem?_eq_getElem hlt
      generalize rs[t] = r at hr
      obtain ⟨a, rfl, hm⟩ := (h.fr0 f1) t r hr
      simp only [NN_mk, Int.toNat_natCast]
      refine ⟨by omega, ?_⟩
      refine LoadT_int.2 ⟨_, (hm 0 (by decide)).1, LoadT_int.2 ⟨_, (hm 1 (by decide)).1, LoadT_int.2 ⟨_, (hm 2 (by decide)).1, LoadT_int.2 ⟨_, (hm 3 (by decide)).1, LoadT_int.2 ⟨_, (hm 4 (by decide)).1, LoadT_int.2 ⟨_, (hm 5 (by decide)).1, LoadT_int.2 ⟨_, (hm 6 (by decide)).1, LoadT_int.2 ⟨_, (hm 7 (by decide)).1, ?_⟩⟩⟩⟩⟩⟩⟩⟩
      rw [addI_i64 (by omega) (by omega), wrap_u64 (by omega) (by omega), show ((t : Nat) : Int) + 1 = ((t + 1 : Nat) : Int) by omega]
      refine F7_call (F7_spec hn1 hn fun w2 p2 c2 q2 d2 lows highs l1 l2 s1 s2 f2 => back_sp ?_)
      refine build_intro und25 g1 g2 (by omega) (by omega) (fill32 p2 n c2 q2 n d2 _ i32 g3) fun w3 f3 b3 z3 => ?_
      have O3 := (O1.fr0 f2).fr0 f3
      have z2 := f2.size
      refine SlO.append (K := SpK 32) und25 g1 g2 g3 (by decide) rfl g4 (by simp [SpK]) O3 b3 (ys := [⟨lows, highs, t + 1⟩]) (Rows.one ⟨p2, c2, q2, d2, by rw [← l1]; rfl, by rw [← l2]; rfl, rfl, s1.fr0 f3, s2.fr0 f3⟩) rfl rfl (fun u hu => ?_) (by omega) fun p' c' w4 f4 O4 hp4 => ?_
      · simp only [List.mem_cons, List.not_mem_nil, or_false] at hu
        rcases hu with rfl | rfl | rfl <;> rfl
      refine ⟨⟨by trivial, by trivial, by trivial, by trivial, t + 1, xs ++ [⟨lows, highs, t + 1⟩], by trivial, hlt, h30, by simp; omega, O4, fun x hx' => ?_, ?_, fun b hb => ?_, ((f1.trans f2 fun _ h => h.elim).trans f3 fun _ h => h.elim).trans f4 fun b hb => .inr (hop b hb)⟩, ?_⟩
      · rcases List.mem_append.1 hx' with hx' | hx'
        · have := hx x hx'; exact ⟨this.1, by have := this.2; omega⟩
        · rw [List.mem_singleton] at hx'
          subst hx'
          exact ⟨⟨l1, l2⟩, Nat.le_refl _⟩
      · rw [List.map_append]
        refine List.nodup_append.2 ⟨hnd, by simp, fun a ha b hb e => ?_⟩
        obtain ⟨x, hx', rfl⟩ := List.mem_map.1 ha
        simp only [List.map_cons, List.map_nil, List.mem_singleton] at hb
        have := (hx x hx').2
        omega
      · rcases hp4 b hb with h | h
        · exact hop b h
        · omega
      · show rs.length - (((t + 1 : Nat) : Int)).toNat < rs.length - ((t : Nat) : Int).toNat
        omega
    · rw [decide_eq_false (show ¬ ((t : Nat) : Int) < 30 by omega), BIf_false]
      exact done
  · rw [decide_eq_false (show ¬ ((t : Nat) : Int) < ((rs.length : Nat) : Int) by omega), BIf_false]
    exact done
/-! ## Lists of lists -/
def SlK : Rk (List Sp) := ⟨25, 1, fun w g xs => ∃ p c, g 0 = some (.slice p xs.length c) ∧ Sl (SpK 32) w p xs, [32, 2],
  fun h ⟨p, c, h0, h1⟩ => ⟨p, c, by rw [← h 0 (by decide)]; exact h0, h1⟩, fun f hd ⟨p, c, h0, h1⟩ => ⟨p, c, h0, sl_dp h1 f hd (by simp [SpK]) (fun u hu => by simp [SpK] at hu; simp [hu])⟩⟩
theorem und46 : Try.prog.underlying 46 = some (.slice 25) := by kernel_rfl
theorem inf25 : ∃ i, Try.prog.info? 25 = some i ∧ i.zero = some (.slice none 0 0) ∧ i.size = 1 ∧ i.bytes ≤ 4096 := ⟨_, rfl, by kernel_rfl, by kernel_rfl, Nat.le_of_ble_eq_true (by kernel_rfl)⟩
theorem fill25 (p : Option Addr) (l c : Nat) : ∀ i : TypeInfo, i.size = 1 → Instr.fill (fun j => some (j * i.size, i.size)) ((Array.range (1 * i.size)).map ((Value.slice none 0 0).cells[· % (Value.slice none 0 0).cells.size]!)) [(0, .slice p l c)] = some [.slice p l c].toArray := by
  intro i h; rw [h]; kernel_rfl
/-- deepAlone. -/
theorem F10_spec {p : Option Addr} {c : Nat} {xs : List Sp} {back : Bool} (h : Sl (SpK 32) w p xs) (hc : xs.length ≤ c) (hl : xs.length < 1000)
    (hk : ∀ w' p' c' (calls : List (List Sp)), Sl SlK w' p' calls → calls.length = xs.length → calls.flatten = (if back = true then xs.reverse else xs) → Fr (fun _ => False) w w' → k (.slice p' calls.length c') w') : F10 k p xs.length c back w := by
  obtain ⟨i25, g1, g2, g3, g4⟩ := inf25
  unfold F10
  refine F10_L1_rule (I := fun lp ll lc bk op ol oc i w' => lp = p ∧ ll = xs.length ∧ lc = c ∧ bk = back ∧ ∃ t : Nat, i = ((t : Nat) : Int) ∧ t ≤ xs.length ∧ SlO SlK w' op ol oc (((if back = true then xs.reverse else xs).take t).map fun x => [x]) ∧ (∀ b, bl op b → w.heap.size ≤ b) ∧ Fr (fun _ => False) w w')
    (μ := fun lp ll lc bk op ol oc i w' => xs.length - i.toNat) ?_ ⟨rfl, rfl, rfl, rfl, 0, rfl, Nat.zero_le _, SlO.nil _ _, (fun b ⟨_, h, _⟩ => by cases h), Fr.refl _ _⟩
  rintro lp ll lc bk op ol oc i w1 ⟨e1, e2, e3, rfl, t, rfl, ht, O1, hop, f1⟩
  obtain rfl := e1.symm
  obtain rfl := e3.symm
  have el : (if bk = true then xs.reverse else xs).length = xs.length := by split <;> simp
  have hol : ol = t := by
    rw [O1.len, List.length_map, List.length_take, el]; omega
  unfold F10_L1
  rw [e2]
  have hz1 := f1.size
  by_cases hlt : t < xs.length
  · rw [decide_eq_true (show ((t : Nat) : Int) < ((xs.length : Nat) : Int) by omega), BIf_true]
    -- one more
    have J : ∀ (j : Nat) (x : Sp), xs[j]? = some x → (if bk = true then xs.reverse else xs)[t]? = some x →
        F10_J1 k (fun lp' ll' lc' bk' op' ol' oc' i' w' => (lp' = p ∧ ll' = xs.length ∧ lc' = c ∧ bk' = bk ∧ ∃ t : Nat, i' = ((t : Nat) : Int) ∧ t ≤ xs.length ∧ SlO SlK w' op' ol' oc' (((if bk = true then xs.reverse else xs).take t).map fun x => [x]) ∧ (∀ b, bl op' b → w.heap.size ≤ b) ∧ Fr (fun _ => False) w w') ∧ xs.length - i'.toNat < xs.length - ((t : Nat) : Int).toNat) p xs.length c bk op ol oc ((t : Nat) : Int) ((j : Nat) : Int) w1 := fun j x hj hr => by
      have hjl : j < xs.length := (List.getElem?_eq_some_iff.1 hj).1
      unfold F10_J1
      rw [addI_i64 (by omega) (by omega), addI_i64 (by omega) (by omega), show ((j : Nat) : Int) + 1 = ((j + 1 : Nat) : Int) by omega]
      simp only [Int.toNat_natCast]
      refine Req_iff.2 ⟨by omega, Req_iff.2 ⟨by omega, ?_⟩⟩
      have hX : Sl (SpK 32) w1 (sliceA p j c 3) [x] := by
        have := ((h.fr0 f1).drop (n := j) hc).take 1
        have e : (xs.drop j).take 1 = [x] := by
          rw [List.drop_eq_getElem_cons hjl]
          rw [List.getElem?_eq_getElem hjl] at hj
          rw [Option.some.inj hj]; rfl
        rw [e] at this; exact this
      rw [Nat.add_sub_cancel_left]
      refine build_intro und46 g1 g2 (by omega) (by omega) (fill25 _ _ _ i25 g3) fun w2 f2 b2 z2 => ?_
      refine SlO.append (K := SlK) und46 g1 g2 g3 (by decide) rfl g4 (by simp [SlK]) (O1.fr0 f2) b2 (ys := [[x]]) (Rows.one (K := SlK) ⟨_, _, rfl, hX.fr0 f2⟩) rfl rfl (fun u hu => ?_) (by omega) fun p' c' w3 f3 O3 hp3 => ?_
      · simp only [List.mem_cons, List.not_mem_nil, or_false] at hu
        subst hu; rfl
      refine ⟨⟨by trivial, by trivial, by trivial, by trivial, t + 1, by omega, hlt, ?_, fun b hb => ?_, (f1.trans f2 fun _ h => h.elim).trans f3 fun b hb => .inr (hop b hb)⟩, ?_⟩
      · rw [take_snoc hr, List.map_append]; exact O3
      · rcases hp3 b hb with h | h
        · exact hop b h
        · omega
      · show xs.length - (((t : Nat) : Int) + 1).toNat < xs.length - ((t : Nat) : Int).toNat
        omega
    cases bk with
    | false =>
      rw [BIf_false]
      exact J t xs[t] (List.getElem?_eq_getElem hlt) (by simp [List.getElem?_eq_getElem hlt])
    | true =>
      rw [BIf_true]
      refine bind_intro ?_
      rw [subI_i64 (a := ((xs.length : Nat) : Int)) (by omega) (by omega), subI_i64 (by omega) (by omega), show ((xs.length : Nat) : Int) - 1 - ((t : Nat) : Int) = ((xs.length - 1 - t : Nat) : Int) by omega]
      have hj : xs[xs.length - 1 - t]? = some (xs[xs.length - 1 - t]'(by omega)) := List.getElem?_eq_getElem (by omega)
      refine J (xs.length - 1 - t) _ hj ?_
      rw [if_pos rfl, List.getElem?_reverse hlt]
      exact hj
  · rw [decide_eq_false (show ¬ ((t : Nat) : Int) < ((xs.length : Nat) : Int) by omega), BIf_false]
    have : t = xs.length := by omega
    subst this
    rw [List.take_of_length_le (by rw [el]; exact Nat.le_refl _)] at O1
    have hfl : ∀ l : List Sp, (l.map fun x => [x]).flatten = l := fun l => by
      induction l with
      | nil => rfl
      | cons a l ih => simp [ih]
    have := hk w1 op oc _ O1.sl (by rw [List.length_map, el]) (hfl _) f1
    rw [List.length_map, el] at this
    rw [hol]
    exact this
/-! ## Lists of numbers -/
def U64K : Rk Nat := ⟨28, 1, fun _ g x => g 0 = some (.int .u64 ((x : Nat) : Int)), [], fun h h0 => by rw [← h 0 (by decide)]; exact h0, fun _ _ h => h⟩
/-- BASame. -/
theorem F11_spec {p q : Option Addr} {c d : Nat} {xs : List Nat} (h1 : Sl U64K w p xs) (h2 : Sl U64K w q xs) (hl : xs.length < 1000000) (hk : ∀ w', Fr (fun _ => False) w w' → k (.bool true) w') : F11 k p xs.length c q xs.length d w := by
  unfold F11
  rw [show (((xs.length : Nat) : Int) != ((xs.length : Nat) : Int)) = false by simp, BIf_false]
  refine F11_L1_rule (I := fun ap al ac bp bl' bc i w' => ap = p ∧ al = xs.length ∧ ac = c ∧ bp = q ∧ bl' = xs.length ∧ bc = d ∧ ∃ t : Nat, i = ((t : Nat) : Int) ∧ t ≤ xs.length ∧ Fr (fun _ => False) w w')
    (μ := fun ap al ac bp bl' bc i w' => xs.length - i.toNat) ?_ ⟨rfl, rfl, rfl, rfl, rfl, rfl, 0, rfl, Nat.zero_le _, Fr.refl _ _⟩
  rintro ap al ac bp bl' bc i w1 ⟨e1, e2, e3, e4, e5, e6, t, rfl, ht, f1⟩
  obtain rfl := e1.symm
  obtain rfl := e3.symm
  obtain rfl := e4.symm
  obtain rfl := e6.symm
  unfold F11_L1
  rw [e2, e5]
  by_cases hlt : t < xs.length
  · rw [decide_eq_true (show ((t : Nat) : Int) < ((xs.length : Nat) : Int) by omega), BIf_true]
    refine drw_intro fun w2 f2 z2 => ?_
    have f02 := f1.trans f2 fun _ h => h.elim
    have hx : xs[t]? = some xs[t] := List.getElem?_eq_getElem hlt
    generalize xs[t] = x at hx
    obtain ⟨a, o, rfl, c0⟩ := (h1.fr0 f02).get hx
    obtain ⟨a', o', rfl, c0'⟩ := (h2.fr0 f02).get hx
    have c0 : w2.cell? ⟨a, o + t, none⟩ = some (.int .u64 ((x : Nat) : Int)) := by
      have h : w2.cell? ⟨a, o + t * 1 + 0, none⟩ = some (.int .u64 ((x : Nat) : Int)) := c0
      rw [show o + t * 1 + 0 = o + t by omega] at h; exact h
    have c0' : w2.cell? ⟨a', o' + t, none⟩ = some (.int .u64 ((x : Nat) : Int)) := by
      have h : w2.cell? ⟨a', o' + t * 1 + 0, none⟩ = some (.int .u64 ((x : Nat) : Int)) := c0'
      rw [show o' + t * 1 + 0 = o' + t by omega] at h; exact h
    simp only [NN_mk, Int.toNat_natCast, add_mk]
    refine ⟨by omega, LoadT_int.2 ⟨_, c0, ⟨by omega, LoadT_int.2 ⟨_, c0', ?_⟩⟩⟩⟩
    rw [show (((x : Nat) : Int) != ((x : Nat) : Int)) = false by simp, BIf_false, addI_i64 (by omega) (by omega)]
    refine ⟨⟨by trivial, by trivial, by trivial, by trivial, by trivial, by trivial, t + 1, by omega, hlt, f02⟩, ?_⟩
    show xs.length - (((t : Nat) : Int) + 1).toNat < xs.length - ((t : Nat) : Int).toNat
    omega
  · rw [decide_eq_false (show ¬ ((t : Nat) : Int) < ((xs.length : Nat) : Int) by omega), BIf_false]
    exact hk w1 f1
end
end Go.Proofs.Ythapmkjmfkmnoaa.E
