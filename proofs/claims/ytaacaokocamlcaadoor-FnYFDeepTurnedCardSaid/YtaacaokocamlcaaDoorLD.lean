/-
  The laws of many entries, walked.
-/
import Derived.Test.YtaacaokocamlcaaDoorLB
namespace Go.Proofs.YtaacaokocamlcaaDoor.E
open Go
set_option linter.unusedSimpArgs false
set_option linter.unusedVariables false
set_option maxRecDepth 100000
set_option maxHeartbeats 8000000

/-- deep07Found, where all is as it must be. -/
theorem F10_spec {k : Value → W} {w : World} {ap lp : Option Addr} {ac lc : Nat} {ans : List An} {L : List Itm} (hA : Sl AnK w ap ans) (hL : Sl ItK w lp L) (hc : L.length ≤ lc) (hlen : L.length + 4 ≤ ans.length) (hb : ans.length < 1000000)
    (h2 : ∀ a, ans[2]? = some a → a.n = L.length) (h3 : ∀ a, ans[L.length + 3]? = some a → a.items = []) (h4 : ∀ i x a, L[i]? = some x → ans[3 + i]? = some a → a.items = [x])
    (hk : ∀ w', Fr (fun _ => False) w w' → k (.bool true) w') : F10 k ap ans.length ac lp L.length lc w := by
  unfold F10
  have e1 : addI .i64 ((L.length : Nat) : Int) 4 = ((L.length + 4 : Nat) : Int) := addI_i64 (by omega) (by omega)
  rw [e1, decide_eq_false (by omega)]
  simp only [BIf_false]
  have g2 : ans[2]? = some ans[2] := List.getElem?_eq_getElem (by omega)
  have g3 : ans[L.length + 3]? = some ans[L.length + 3] := List.getElem?_eq_getElem (by omega)
  obtain ⟨q, o, rfl, pi, ci, a0, a1, a2, a3⟩ := hA.get g2
  obtain ⟨q', o', hq, pi', ci', b0, b1, b2, b3⟩ := hA.get g3
  cases hq
  simp only [NN_mk, add_mk]
  refine ⟨by omega, LoadT_int.2 ⟨_, a1, ?_⟩⟩
  rw [h2 _ g2, wrap_u64 (by omega) (by omega), show (((L.length : Nat) : Int) != ((L.length : Nat) : Int)) = false by simp]
  simp only [BIf_false, NN_mk]
  have e2 : addI .i64 ((L.length : Nat) : Int) 3 = ((L.length + 3 : Nat) : Int) := addI_i64 (by omega) (by omega)
  rw [e2]
  simp only [Int.toNat_natCast, add_mk]
  refine ⟨by omega, LoadT_slice.2 ⟨_, _, _, b0, ?_⟩⟩
  rw [h3 _ g3]
  rw [show (((([] : List Itm).length : Nat) : Int) != 0) = false from rfl]
  simp only [BIf_false]
  refine F10_L1_rule (fun a al ac' b bl' bc' n i w' => a = some ⟨q, o, none⟩ ∧ al = ans.length ∧ b = lp ∧ bl' = L.length ∧ bc' = lc ∧ n = (L.length : Nat) ∧ ∃ j : Nat, i = j ∧ j ≤ L.length ∧ Fr (fun _ => False) w w')
    (fun _ _ _ _ _ _ n i _ => (n - i).toNat) ?_ ⟨rfl, rfl, rfl, rfl, rfl, rfl, 0, rfl, Nat.zero_le _, Fr.refl _ _⟩
  rintro a al ac' b bl' bc' n i w1 ⟨rfl, rfl, e5, rfl, e6, rfl, j, rfl, hj, f1⟩
  obtain rfl := e5.symm; obtain rfl := e6.symm
  unfold F10_L1
  by_cases hlt : j < L.length
  rotate_left
  · rw [decide_eq_false (by omega)]
    simp only [BIf_false]
    exact hk w1 f1
  rw [decide_eq_true (by omega)]
  simp only [BIf_true]
  refine drw_intro fun w2 f2 z2 => ?_
  have f02 := f1.trans f2 fun _ h => h.elim
  have hx : L[j]? = some L[j] := List.getElem?_eq_getElem hlt
  have gj : ans[3 + j]? = some ans[3 + j] := List.getElem?_eq_getElem (by omega)
  obtain ⟨q', o', hq, pj, cj, c0, c1, c2, c3⟩ := (hA.fr0 f02).get gj
  cases hq
  have e7 : addI .i64 3 ((j : Nat) : Int) = ((3 + j : Nat) : Int) := addI_i64 (by omega) (by omega)
  rw [e7, add_one (by omega)]
  simp only [NN_mk, Int.toNat_natCast, add_mk]
  refine ⟨by omega, LoadT_slice.2 ⟨_, _, _, c0, ?_⟩⟩
  refine ⟨by omega, by omega, ?_⟩
  rw [h4 j _ _ hx gj] at c3 ⊢
  have hs : Sl ItK w2 (sliceA lp j lc 2) [L[j]] := by
    have := ((hL.fr0 f02).drop (n := j) (c := lc) hc).take 1
    rw [List.drop_eq_getElem_cons hlt] at this
    exact this
  have e8 : j + 1 - j = [L[j]].length := by simp
  rw [e8]
  refine F11_call (F11_spec c3 hs (by simp) fun w3 f3 => back_bool ?_)
  simp only [Bool.not_true, BIf_false]
  exact ⟨⟨(by trivial), (by trivial), (by trivial), (by trivial), (by trivial), (by trivial), j + 1, rfl, hlt, f02.trans f3 fun _ h => h.elim⟩, by omega⟩
/-- The facts for many entries. -/
structure MF (L : List Itm) (kn : Nat) (ans : List An) : Prop where
  len : L.length + 4 ≤ ans.length
  h2 : ∀ a, ans[2]? = some a → a.n = L.length
  h3 : ∀ a, ans[L.length + 3]? = some a → a.items = []
  h4 : ∀ i x a, L[i]? = some x → ans[3 + i]? = some a → a.items = [x]
theorem mf {L : List Itm} {kn : Nat} {a b : An} {rest : List An} (hD : Dis L) (hkn : ∀ x ∈ L, x.1 ≠ kn) : MF L kn ([a, b, ⟨[], (PSt.new.insAll L).num, false⟩] ++ L.map (fun x => fnd (PSt.new.insAll L) x.1) ++ [fnd (PSt.new.insAll L) kn] ++ rest) := by
  have hc := insAll_count L PSt.new hD fun x _ => rfl
  refine ⟨by simp, fun c h => ?_, fun c h => ?_, fun i x c hx h => ?_⟩
  · rw [List.append_assoc, List.append_assoc] at h
    cases h
    show (PSt.new.insAll L).num = _
    rw [hc]; show 0 + _ = _; omega
  · rw [List.append_assoc, List.getElem?_append_right (by simp)] at h
    simp only [List.length_append, List.length_cons, List.length_nil, List.length_map] at h
    rw [show L.length + 3 - (0 + 1 + 1 + 1 + L.length) = 0 by omega] at h
    cases h
    show it1 kn ((PSt.new.insAll L).m kn) = []
    rw [insAll_old L _ _ hkn]; rfl
  · have hi := (List.getElem?_eq_some_iff.1 hx).1
    rw [List.append_assoc, List.getElem?_append_left (by simp; omega), List.getElem?_append_right (by simp), List.getElem?_map] at h
    simp only [List.length_cons, List.length_nil] at h
    rw [show 3 + i - (0 + 1 + 1 + 1) = i by omega, hx] at h
    cases h
    show it1 x.1 ((PSt.new.insAll L).m x.1) = [x]
    rw [insAll_new L _ hD x (List.mem_of_getElem? hx)]; rfl
theorem fill33b (o1 o2 : Int) (p1 : Option Addr) (l1 c1 : Nat) (q1 : Option Addr) (m1 d1 : Nat) (p2 : Option Addr) (l2 c2 : Nat) (q2 : Option Addr) (m2 d2 : Nat) : ∀ i : TypeInfo, i.size = 3 → Instr.fill (fun j => some (j * i.size, i.size)) ((Array.range (2 * i.size)).map (z33.cells[· % z33.cells.size]!)) [(0, .agg #[.int .i64 o1, .slice p1 l1 c1, .slice q1 m1 d1]), (1, .agg #[.int .i64 o2, .slice p2 l2 c2, .slice q2 m2 d2])] = some [.int .i64 o1, .slice p1 l1 c1, .slice q1 m1 d1, .int .i64 o2, .slice p2 l2 c2, .slice q2 m2 d2].toArray := by
  intro i h; rw [h]; kernel_rfl
/-- The least and the greatest of what was inserted. -/
theorem fndo_least {L : List Itm} (hD : Dis L) {x : Itm} (hx : x ∈ L) (hmin : ∀ y ∈ L, x.1 ≤ y.1) : fndo (PSt.new.insAll L) (PSt.new.insAll L).mn = ⟨[x], 0, false⟩ := by
  rcases insAll_mn L PSt.new with ⟨a, h1, h2, h3, h4⟩ | ⟨h, _⟩
  · rcases h2 with h2 | ⟨y, hy, rfl⟩
    · cases h2
    · have e : y.1 = x.1 := Nat.le_antisymm (h4 x hx) (hmin y hy)
      rw [h1]
      show fnd _ y.1 = _
      unfold fnd
      rw [e, insAll_new L _ hD x hx]; rfl
  · rw [h] at hx; cases hx
theorem fndo_most {L : List Itm} (hD : Dis L) {x : Itm} (hx : x ∈ L) (hmax : ∀ y ∈ L, y.1 ≤ x.1) : fndo (PSt.new.insAll L) (PSt.new.insAll L).mx = ⟨[x], 0, false⟩ := by
  rcases insAll_mx L PSt.new with ⟨a, h1, h2, h3, h4⟩ | ⟨h, _⟩
  · rcases h2 with h2 | ⟨y, hy, rfl⟩
    · cases h2
    · have e : y.1 = x.1 := Nat.le_antisymm (hmax y hy) (h4 x hx)
      rw [h1]
      show fnd _ y.1 = _
      unfold fnd
      rw [e, insAll_new L _ hD x hx]; rfl
  · rw [h] at hx; cases hx
/-- The loop that looks for the least and the greatest, and what is held against it. -/
theorem F3_J1_spec {k : Value → W} {w : World} {lp ap : Option Addr} {lc ac n1 n2 : Nat} {ans : List An} {L : List Itm} {x0 : Itm} {kn : Nat} (hne : n1 ≠ n2) (hL : Sl ItK w lp L) (hc : L.length ≤ lc) (hA : Sl AnK w ap ans) (h0 : L[0]? = some x0) (hlen : ans.length = L.length + 6) (hll : L.length < 1000) (hM : MF L kn ans)
    (b1 : Blk w n1 35 [.int .u64 (x0.1 : Nat), .int .i64 x0.2]) (b2 : Blk w n2 35 [.int .u64 (x0.1 : Nat), .int .i64 x0.2]) (hn1 : ∀ b, bl lp b → b ≠ n1 ∧ b ≠ n2)
    (hsep : ∀ S w', (∀ b, S b → b = n1 ∨ b = n2) → Fr S w w' → Sl AnK w' ap ans)
    (hmn : ∀ x, x ∈ L → (∀ y ∈ L, x.1 ≤ y.1) → ∀ a, ans[L.length + 4]? = some a → a.items = [x]) (hmx : ∀ x, x ∈ L → (∀ y ∈ L, y.1 ≤ x.1) → ∀ a, ans[L.length + 5]? = some a → a.items = [x])
    (hk : ∀ w', Fr (fun b => b = n1 ∨ b = n2) w w' → k (.bool true) w') : F3_J1 k lp L.length lc ap ans.length ac ⟨n1, 0, none⟩ ⟨n2, 0, none⟩ w := by
  have hLs : ∀ w', Fr (fun b => b = n1 ∨ b = n2) w w' → Sl ItK w' lp L := fun w' f => by
    rcases hL with h | ⟨q, o, us, rfl, hB, hR⟩
    · exact .inl h
    · exact .inr ⟨q, o, us, rfl, hB.fr f (fun h => by
        obtain ⟨g1, g2⟩ := hn1 q ⟨_, rfl, rfl⟩
        rcases h with h | h
        · exact g1 h
        · exact g2 h), fun i x hx => hR i x hx⟩
  unfold F3_J1
  refine F3_L1_rule (fun l ll lc' a al ac' le mo i w' => l = lp ∧ ll = L.length ∧ lc' = lc ∧ a = ap ∧ al = ans.length ∧ le = ⟨n1, 0, none⟩ ∧ mo = ⟨n2, 0, none⟩ ∧ ∃ (j : Nat) (x y : Itm), i = j ∧ 1 ≤ j ∧ j ≤ L.length ∧ x ∈ L ∧ y ∈ L ∧ (∀ t z, t < j → L[t]? = some z → x.1 ≤ z.1 ∧ z.1 ≤ y.1) ∧ Blk w' n1 35 [.int .u64 (x.1 : Nat), .int .i64 x.2] ∧ Blk w' n2 35 [.int .u64 (y.1 : Nat), .int .i64 y.2] ∧ Fr (fun b => b = n1 ∨ b = n2) w w')
    (fun _ _ _ _ _ _ _ _ i _ => ((L.length : Int) - i).toNat) ?_ ⟨rfl, rfl, rfl, rfl, rfl, rfl, rfl, 1, x0, x0, rfl, Nat.le_refl _, by have := (List.getElem?_eq_some_iff.1 h0).1; omega, List.mem_of_getElem? h0, List.mem_of_getElem? h0, fun t z ht hz => by
      have : t = 0 := by omega
      subst this
      rw [h0] at hz; cases hz; exact ⟨Nat.le_refl _, Nat.le_refl _⟩, b1, b2, Fr.refl _ _⟩
  rintro l ll lc' a al ac' le mo i w1 ⟨e1, rfl, e2, e3, rfl, rfl, rfl, j, x, y, rfl, h1j, hj, hx, hy, hxy, b1, b2, f1⟩
  obtain rfl := e1.symm; obtain rfl := e2.symm; obtain rfl := e3.symm
  unfold F3_L1
  by_cases hlt : j < L.length
  · rw [decide_eq_true (by omega)]
    simp only [BIf_true]
    refine drw_intro fun w2 f2 z2 => ?_
    have f02 := f1.trans f2 fun _ h => h.elim
    have b1 := b1.fr f2 id
    have b2 := b2.fr f2 id
    have hg : L[j]? = some L[j] := List.getElem?_eq_getElem hlt
    have hmem := List.getElem_mem hlt
    obtain ⟨q, o, rfl, c0, c1⟩ := (hLs w2 f02).get hg
    generalize L[j] = v at *
    simp only [NN_mk, Int.toNat_natCast, add_mk]
    refine ⟨by omega, LoadT_int.2 ⟨_, c0, load_int (i := 0) b1 rfl ?_⟩⟩
    -- the greatest
    have j2 : ∀ (x' : Itm) w3, x' ∈ L → (∀ t z, t < j + 1 → L[t]? = some z → x'.1 ≤ z.1) → Blk w3 n1 35 [.int .u64 (x'.1 : Nat), .int .i64 x'.2] → Blk w3 n2 35 [.int .u64 (y.1 : Nat), .int .i64 y.2] → Fr (fun b => b = n1 ∨ b = n2) w w3 → ∀ again, (∀ (y' : Itm) w4, y' ∈ L → (∀ t z, t < j + 1 → L[t]? = some z → x'.1 ≤ z.1 ∧ z.1 ≤ y'.1) → Blk w4 n1 35 [.int .u64 (x'.1 : Nat), .int .i64 x'.2] → Blk w4 n2 35 [.int .u64 (y'.1 : Nat), .int .i64 y'.2] → Fr (fun b => b = n1 ∨ b = n2) w w4 → again (some ⟨q, o, none⟩) L.length lc ap ans.length ac' ⟨n1, 0, none⟩ ⟨n2, 0, none⟩ (addI .i64 ((j : Nat) : Int) 1) w4) →
        F3_J2 k again (some ⟨q, o, none⟩) L.length lc ap ans.length ac' ⟨n1, 0, none⟩ ⟨n2, 0, none⟩ ((j : Nat) : Int) w3 := fun x' w3 hx' hmin b1 b2 f03 again hag => by
      unfold F3_J2
      refine drw_intro fun w4 f4 z4 => ?_
      have f04 := f03.trans f4 fun _ h => h.elim
      have b1 := b1.fr f4 id
      have b2 := b2.fr f4 id
      obtain ⟨q', o', hq, c0, c1⟩ := (hLs w4 f04).get hg
      cases hq
      simp only [NN_mk, Int.toNat_natCast, add_mk]
      refine ⟨by omega, LoadT_int.2 ⟨_, c0, load_int (i := 0) b2 rfl ?_⟩⟩
      by_cases hgt : y.1 < v.1
      · rw [decide_eq_true (by omega)]
        simp only [BIf_true, NN_mk, Int.toNat_natCast, add_mk, Nat.zero_add]
        refine ⟨by omega, LoadT_int.2 ⟨_, c0, LoadT_int.2 ⟨_, c1, ?_⟩⟩⟩
        refine store_intro (i := 0) b2 (by simp) rfl fun w5 b5 f5 z5 => ?_
        refine store_intro (i := 1) b5 (by simp) rfl fun w6 b6 f6 z6 => ?_
        have f46 : Fr (fun b => b = n2) w4 w6 := f5.trans f6 fun b h => .inl h
        refine hag v w6 hmem (fun t z ht hz => ⟨hmin t z ht hz, ?_⟩) (b1.fr f46 hne) b6 (f04.trans f46 fun b h => .inl (.inr h))
        by_cases htj : t = j
        · subst htj; rw [hg] at hz; cases hz; exact Nat.le_refl _
        · have := (hxy t z (by omega) hz).2; omega
      · rw [decide_eq_false (by omega)]
        simp only [BIf_false]
        refine hag y w4 hy (fun t z ht hz => ⟨hmin t z ht hz, ?_⟩) b1 b2 f04
        by_cases htj : t = j
        · subst htj; rw [hg] at hz; cases hz; omega
        · exact (hxy t z (by omega) hz).2
    have hag : ∀ (x' : Itm) (y' : Itm) w4, x' ∈ L → y' ∈ L → (∀ t z, t < j + 1 → L[t]? = some z → x'.1 ≤ z.1 ∧ z.1 ≤ y'.1) → Blk w4 n1 35 [.int .u64 (x'.1 : Nat), .int .i64 x'.2] → Blk w4 n2 35 [.int .u64 (y'.1 : Nat), .int .i64 y'.2] → Fr (fun b => b = n1 ∨ b = n2) w w4 →
        ((some ⟨q, o, none⟩ : Option Addr) = some ⟨q, o, none⟩ ∧ L.length = L.length ∧ lc = lc ∧ ap = ap ∧ ans.length = ans.length ∧ (⟨n1, 0, none⟩ : Addr) = ⟨n1, 0, none⟩ ∧ (⟨n2, 0, none⟩ : Addr) = ⟨n2, 0, none⟩ ∧ ∃ (j' : Nat) (x y : Itm), addI .i64 ((j : Nat) : Int) 1 = j' ∧ 1 ≤ j' ∧ j' ≤ L.length ∧ x ∈ L ∧ y ∈ L ∧ (∀ t z, t < j' → L[t]? = some z → x.1 ≤ z.1 ∧ z.1 ≤ y.1) ∧ Blk w4 n1 35 [.int .u64 (x.1 : Nat), .int .i64 x.2] ∧ Blk w4 n2 35 [.int .u64 (y.1 : Nat), .int .i64 y.2] ∧ Fr (fun b => b = n1 ∨ b = n2) w w4) ∧ ((L.length : Int) - addI .i64 ((j : Nat) : Int) 1).toNat < ((L.length : Int) - ((j : Nat) : Int)).toNat := fun x' y' w4 h1 h2 h3 h4 h5 h6 => by
      rw [add_one (by omega)]
      exact ⟨⟨rfl, rfl, rfl, rfl, rfl, rfl, rfl, j + 1, x', y', rfl, by omega, hlt, h1, h2, h3, h4, h5, h6⟩, by omega⟩
    by_cases hlt2 : v.1 < x.1
    · rw [decide_eq_true (by omega)]
      simp only [BIf_true, NN_mk, Int.toNat_natCast, add_mk, Nat.zero_add]
      refine ⟨by omega, LoadT_int.2 ⟨_, c0, LoadT_int.2 ⟨_, c1, ?_⟩⟩⟩
      refine store_intro (i := 0) b1 (by simp) rfl fun w5 b5 f5 z5 => ?_
      refine store_intro (i := 1) b5 (by simp) rfl fun w6 b6 f6 z6 => ?_
      have f26 : Fr (fun b => b = n1) w2 w6 := f5.trans f6 fun b h => .inl h
      refine j2 v w6 hmem (fun t z ht hz => ?_) b6 (b2.fr f26 (fun e => hne e.symm)) (f02.trans f26 fun b h => .inl (.inl h)) _ fun y' w4 g1 g2 g3 g4 g5 => hag v y' w4 hmem g1 g2 g3 g4 g5
      by_cases htj : t = j
      · subst htj; rw [hg] at hz; cases hz; exact Nat.le_refl _
      · have := (hxy t z (by omega) hz).1; omega
    · rw [decide_eq_false (by omega)]
      simp only [BIf_false]
      refine j2 x w2 hx (fun t z ht hz => ?_) b1 b2 f02 _ fun y' w4 g1 g2 g3 g4 g5 => hag x y' w4 hx g1 g2 g3 g4 g5
      by_cases htj : t = j
      · subst htj; rw [hg] at hz; cases hz; omega
      · exact (hxy t z (by omega) hz).1
  · have : j = L.length := by omega
    subst this
    rw [decide_eq_false (by omega)]
    simp only [BIf_false]
    refine drw_intro fun w2 f2 z2 => ?_
    have f02 := f1.trans f2 fun _ h => h.elim
    have b1 := b1.fr f2 id
    have b2 := b2.fr f2 id
    have allx : ∀ z ∈ L, x.1 ≤ z.1 ∧ z.1 ≤ y.1 := fun z hz => by
      obtain ⟨t, ht, e⟩ := List.getElem_of_mem hz
      exact hxy t z ht (by rw [List.getElem?_eq_getElem ht, e])
    have e6 : addI .i64 ((L.length : Nat) : Int) 6 = ((L.length + 6 : Nat) : Int) := addI_i64 (by omega) (by omega)
    have e4 : addI .i64 ((L.length : Nat) : Int) 4 = ((L.length + 4 : Nat) : Int) := addI_i64 (by omega) (by omega)
    have e5 : addI .i64 ((L.length : Nat) : Int) 5 = ((L.length + 5 : Nat) : Int) := addI_i64 (by omega) (by omega)
    rw [e6, e4, e5, show (((ans.length : Nat) : Int) == ((L.length + 6 : Nat) : Int)) = true by rw [beq_iff_eq, hlen]]
    simp only [BIf_true]
    have hA2 := hsep _ w2 (fun b h => h) f02
    refine F10_call (F10_spec hA2 (hLs w2 f02) hc (by omega) (by omega) hM.h2 hM.h3 hM.h4 fun w3 f3 => back_bool ?_)
    simp only [BIf_true]
    have f03 := f02.trans f3 fun _ h => h.elim
    have hA3 := hA2.fr0 f3
    have g4 : ans[L.length + 4]? = some ans[L.length + 4] := List.getElem?_eq_getElem (by omega)
    have g5 : ans[L.length + 5]? = some ans[L.length + 5] := List.getElem?_eq_getElem (by omega)
    have m4 := hmn x hx (fun z hz => (allx z hz).1) _ g4
    have m5 := hmx y hy (fun z hz => (allx z hz).2) _ g5
    obtain ⟨q, o, rfl, pi, ci, a0, a1, a2, a3⟩ := hA3.get g4
    obtain ⟨q', o', hq, pj, cj, d0, d1, d2, d3⟩ := hA3.get g5
    cases hq
    generalize ans[L.length + 4] = A4 at *
    generalize ans[L.length + 5] = A5 at *
    rw [m4] at a0 a3
    rw [m5] at d0 d3
    have b1 := b1.fr f3 id
    have b2 := b2.fr f3 id
    simp only [NN_mk, Int.toNat_natCast, add_mk, Nat.zero_add]
    refine ⟨by omega, LoadT_slice.2 ⟨_, _, _, a0, load_int (i := 0) b1 rfl (load_int (i := 1) b1 rfl ?_)⟩⟩
    refine bld_it (x := x) rfl fun m w4 em bm sm fm zm => ?_
    have b1' := b1.fr fm id
    refine ⟨(fm.cell (cell_lt a0) id).trans a0, ?_⟩
    refine F11_call (F11_spec (a3.fr0 fm) sm (by simp) fun w5 f5 => back_bool ?_)
    have b15 := b1'.fr f5 id
    have f35 := fm.trans f5 fun _ h => h.elim
    refine ⟨by rw [b15.cell]; rfl, by rw [b15.cell]; rfl, ?_⟩
    simp only [BIf_true, NN_mk, Int.toNat_natCast, add_mk, Nat.zero_add]
    have b25 := b2.fr f35 id
    have d0' : w5.cell? ⟨q, o + (L.length + 5) * 3 + 0, none⟩ = _ := (f35.cell (cell_lt d0) id).trans d0
    refine ⟨by omega, LoadT_slice.2 ⟨_, _, _, d0', load_int (i := 0) b25 rfl (load_int (i := 1) b25 rfl ?_)⟩⟩
    refine bld_it (x := y) rfl fun m' w6 em' bm' sm' fm' zm' => ?_
    have f36 := f35.trans fm' fun _ h => h.elim
    refine ⟨(f36.cell (cell_lt d0) id).trans d0, by rw [(b15.fr fm' id).cell]; rfl, by rw [(b15.fr fm' id).cell]; rfl, (f36.cell (cell_lt a0) id).trans a0, ?_⟩
    refine F11_call (F11_spec (d3.fr0 f36) sm' (by simp) fun w7 f7 => back_bool ?_)
    have f37 := f36.trans f7 fun _ h => h.elim
    refine ⟨by rw [(b2.fr f37 id).cell]; rfl, by rw [(b2.fr f37 id).cell]; rfl, by rw [(b1.fr f37 id).cell]; rfl, by rw [(b1.fr f37 id).cell]; rfl, (f37.cell (cell_lt a0) id).trans a0, ?_⟩
    exact hk w7 (f03.trans f37 fun _ h => h.elim)
end Go.Proofs.YtaacaokocamlcaaDoor.E
