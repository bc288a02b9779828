/-
  Sorted lists of items, by the definition: where a key is, get, drop, place, put.
-/
import Derived.Test.YtfokodpnoiilbaaSB
import Derived.Laws.StructEq
namespace Go.Proofs.Ytfokodpnoiilbaa.E
open Go
set_option linter.unusedSimpArgs false
set_option linter.unusedVariables false
set_option maxRecDepth 100000
set_option maxHeartbeats 8000000

/-! ## Plain -/
def SoI (l : List Itm) : Prop := l.Pairwise fun a b => a.1 < b.1
theorem hi_headI {k : Int} : ∀ {l : List Itm}, SoI l →
    (∃ z B, hiI k l = z :: B ∧ z.1 = k ∧ findI k l = some z ∧ gtI k l = B) ∨ ((∀ z ∈ l, z.1 ≠ k) ∧ findI k l = none ∧ gtI k l = hiI k l)
  | [], _ => .inr ⟨fun z hz => by simp at hz, rfl, rfl⟩
  | a :: l, s => by
    obtain ⟨h1, h2⟩ := List.pairwise_cons.1 s
    have ih := hi_headI (k := k) h2
    by_cases ha : a.1 < k
    · have e1 : hiI k (a :: l) = hiI k l := by simp [hiI, ha]
      have e2 : findI k (a :: l) = findI k l := by simp only [findI]; rw [List.find?_cons_of_neg]; simp; omega
      have e3 : gtI k (a :: l) = gtI k l := by simp only [gtI]; rw [List.filter_cons_of_neg]; simp; omega
      rw [e1, e2, e3]
      rcases ih with h | ⟨h3, h4⟩
      · exact .inl h
      · refine .inr ⟨fun z hz => ?_, h4⟩
        rcases List.mem_cons.1 hz with e | e
        · rw [e]; omega
        · exact h3 z e
    · have eh : hiI k (a :: l) = a :: l := List.filter_eq_self.2 fun x hx => by
        rcases List.mem_cons.1 hx with e | e
        · rw [e]; simp [ha]
        · have := h1 x e; simp; omega
      by_cases he : a.1 = k
      · refine .inl ⟨a, l, eh, he, ?_, ?_⟩
        · simp only [findI]; rw [List.find?_cons_of_pos]; simpa using he
        · simp only [gtI]
          rw [List.filter_cons_of_neg (by simp; omega)]
          exact List.filter_eq_self.2 fun x hx => by have := h1 x hx; simp; omega
      · refine .inr ⟨fun z hz => ?_, ?_, ?_⟩
        · rcases List.mem_cons.1 hz with e | e
          · rw [e]; exact he
          · have := h1 z e; omega
        · simp only [findI]
          refine List.find?_eq_none.2 fun x hx => ?_
          rcases List.mem_cons.1 hx with e | e
          · rw [e]; simpa using he
          · have := h1 x e; simp; omega
        · rw [eh]
          exact List.filter_eq_self.2 fun x hx => by
            rcases List.mem_cons.1 hx with e | e
            · rw [e]; simp; omega
            · have := h1 x e; simp; omega
theorem lo_take {l : List Itm} {t : Nat} {key : Int} (s : SoI l) (h1 : ∀ x ∈ l.take t, x.1 < key) (h2 : ∀ x, l[t]? = some x → key ≤ x.1) : loI key l = l.take t ∧ hiI key l = l.drop t := by
  have hd : ∀ x ∈ l.drop t, key ≤ x.1 := fun x hx => by
    have sd : SoI (l.drop t) := s.sublist (List.drop_sublist _ _)
    cases hdr : l.drop t with
    | nil => rw [hdr] at hx; cases hx
    | cons a r =>
      have ha : l[t]? = some a := by
        have := congrArg List.head? hdr
        rw [List.head?_drop] at this; exact this
      rw [hdr] at hx sd
      have := h2 a ha
      rcases List.mem_cons.1 hx with e | e
      · rw [e]; exact this
      · have := (List.pairwise_cons.1 sd).1 x e; omega
  have e1 : loI key (l.take t) = l.take t := List.filter_eq_self.2 fun x hx => by simpa using h1 x hx
  have e2 : loI key (l.drop t) = [] := List.filter_eq_nil_iff.2 fun x hx => by have := hd x hx; simp; omega
  have e3 : hiI key (l.take t) = [] := List.filter_eq_nil_iff.2 fun x hx => by have := h1 x hx; simpa using this
  have e4 : hiI key (l.drop t) = l.drop t := List.filter_eq_self.2 fun x hx => by have := hd x hx; simp; omega
  have a1 : loI key (l.take t ++ l.drop t) = loI key (l.take t) ++ loI key (l.drop t) := List.filter_append ..
  have a2 : hiI key (l.take t ++ l.drop t) = hiI key (l.take t) ++ hiI key (l.drop t) := List.filter_append ..
  rw [List.take_append_drop] at a1 a2
  exact ⟨by rw [a1, e1, e2, List.append_nil], by rw [a2, e3, e4, List.nil_append]⟩
theorem lo_hiI {l : List Itm} (s : SoI l) (key : Int) : l = loI key l ++ hiI key l := by
  induction l with
  | nil => rfl
  | cons a l ih =>
    obtain ⟨h1, h2⟩ := List.pairwise_cons.1 s
    by_cases ha : a.1 < key
    · rw [show loI key (a :: l) = a :: loI key l by simp [loI, ha], show hiI key (a :: l) = hiI key l by simp [hiI, ha], List.cons_append, ← ih h2]
    · have e := lo_take (l := a :: l) (t := 0) (key := key) s (fun x hx => by simp at hx) (fun x hx => by simp at hx; subst hx; omega)
      rw [e.1, e.2]; rfl
theorem get_split {l A B : List Itm} {z : Itm} (h : l = A ++ z :: B) : l[A.length]? = some z := by
  rw [h, List.getElem?_append_right (Nat.le_refl _), Nat.sub_self]; rfl
theorem take_split {l A B : List Itm} (h : l = A ++ B) : l.take A.length = A := by rw [h, List.take_left]
theorem drop_split {l A B : List Itm} (h : l = A ++ B) : l.drop A.length = B := by rw [h, List.drop_left]
theorem drop_split1 {l A B : List Itm} {z : Itm} (h : l = A ++ z :: B) : l.drop (A.length + 1) = B := by rw [h, ← List.drop_drop, List.drop_left]; rfl
theorem len_split {l A B : List Itm} (h : l = A ++ B) : A.length + B.length = l.length := by rw [h, List.length_append]
theorem SoI.put {l : List Itm} (s : SoI l) (x : Itm) : SoI (putI l x) := by
  refine List.pairwise_append.2 ⟨s.filter _, List.pairwise_cons.2 ⟨fun y hy => ?_, s.filter _⟩, fun y hy z hz => ?_⟩
  · have := (List.mem_filter.1 hy).2; simpa using this
  · have h1 := (List.mem_filter.1 hy).2
    have h1 : y.1 < x.1 := by simpa using h1
    rcases List.mem_cons.1 hz with e | e
    · rw [e]; exact h1
    · have h2 := (List.mem_filter.1 e).2
      have h2 : x.1 < z.1 := by simpa using h2
      omega
theorem SoI.del {l : List Itm} (s : SoI l) (x : Itm) : SoI (delI l x) := by
  have := s.put x
  exact this.sublist (List.Sublist.append (List.Sublist.refl _) (List.sublist_cons_self _ _))
theorem lo_del {l : List Itm} (s : SoI l) (x : Itm) : loI x.1 (delI l x) = loI x.1 l ∧ hiI x.1 (delI l x) = gtI x.1 l := by
  have e := lo_take (l := delI l x) (t := (loI x.1 l).length) (key := x.1) (s.del x) (fun y hy => by
    rw [show delI l x = loI x.1 l ++ gtI x.1 l from rfl, List.take_left] at hy
    simpa using (List.mem_filter.1 hy).2) (fun y hy => by
    rw [show delI l x = loI x.1 l ++ gtI x.1 l from rfl, List.getElem?_append_right (Nat.le_refl _)] at hy
    have h2 := (List.mem_filter.1 (List.mem_of_getElem? hy)).2
    have h2 : x.1 < y.1 := by simpa using h2
    omega)
  rw [show delI l x = loI x.1 l ++ gtI x.1 l from rfl, List.take_left, List.drop_left] at e
  exact e

/-! ## Memory -/
def Ls (w : World) (p : Option Addr) (c : Nat) (xs : List Itm) : Prop := Sl NwK w p xs ∧ xs.length ≤ c
theorem Ls.fr0 {w w' : World} {p : Option Addr} {c : Nat} {xs : List Itm} (h : Ls w p c xs) (f : Fr (fun _ => False) w w') : Ls w' p c xs := ⟨h.1.fr0 f, h.2⟩
theorem SlO.ls {w : World} {p : Option Addr} {l c : Nat} {xs : List Itm} (h : SlO NwK w p l c xs) : Ls w p c xs := ⟨h.sl, by rw [← h.len]; exact h.le.1⟩
theorem und63 : Try.prog.underlying 63 = some (.slice 67) := by kernel_rfl
theorem inf67 : ∃ i, Try.prog.info? 67 = some i ∧ i.zero = some z37 ∧ i.size = 2 ∧ i.bytes ≤ 4096 := ⟨_, rfl, by kernel_rfl, by kernel_rfl, Nat.le_of_ble_eq_true (by kernel_rfl)⟩
theorem run_append_zero {P : Program} (w : World) (t ty e : TypeId) (i : TypeInfo) (ht : P.underlying t = some (.slice e)) (hi : P.info? e = some i) (base a : Option Addr) (sLen sCap d : Nat) (hle : sLen ≤ sCap) :
    (Builtin.append_ #[t, t] ty #[.slice base sLen sCap, .slice a 0 d]).run P w = .ok (.slice base sLen sCap) w := by
  cases base <;> cases a <;> simp [Builtin.append_, run_underlying ht, sizeOf, typeInfo, hi, Builtin.lenOf, Builtin.firstCells, hle, storeCells, loadCells, loadCellsFrom]
/-- append of what can be read. -/
theorem app_ls {w : World} {f : Option Addr → Nat → Nat → W} {ty : TypeId} {cs : Array Bool} {p q : Option Addr} {l c m d : Nat} {xs ys : List Itm} (h : SlO NwK w p l c xs) (hY : Sl NwK w q ys) (hm : m = ys.length) (hlm : l + m < 4000000000)
    (hk : ∀ p' c' w', Fr (fun b => bl p b) w w' → SlO NwK w' p' (l + m) c' (xs ++ ys) → (∀ b, bl p' b → bl p b ∨ w.heap.size ≤ b) → f p' (l + m) c' w') :
    NextT Try.prog (builtin .append #[63, 63] ty cs [.slice p l c, .slice q m d].toArray) (.s (.one .slice)) f w := by
  obtain ⟨i, g1, g2, g3, g4⟩ := inf67
  rcases hY with rfl | ⟨b, o, us, rfl, hB, hR⟩
  · have hm0 : m = 0 := hm
    subst hm0
    refine NextT_slice (builtin_append (run_append_zero w 63 ty 67 i und63 g1 p q l c d h.le.1)) ?_
    exact hk p c w (Fr.refl _ _) (by rw [List.append_nil]; exact h) fun b hb => .inl hb
  · have hty := h.ty
    obtain ⟨vs, h1', h2, h3⟩ := h
    let news : List Value := ys.flatMap fun y => [.int .i64 y.1, .int .i64 y.2]
    have hlen : ∀ (l : List Itm), (l.flatMap fun y => [Value.int .i64 y.1, .int .i64 y.2]).length = l.length * 2 := fun l => by
      induction l with
      | nil => rfl
      | cons a l ih => rw [List.flatMap_cons, List.length_append, ih]; simp; omega
    have hget : ∀ (l : List Itm) (i : Nat) (x : Itm), l[i]? = some x → (l.flatMap fun y => [Value.int .i64 y.1, .int .i64 y.2])[i * 2]? = some (.int .i64 x.1) ∧ (l.flatMap fun y => [Value.int .i64 y.1, .int .i64 y.2])[i * 2 + 1]? = some (.int .i64 x.2) := fun l => by
      induction l with
      | nil => intro i x h; simp at h
      | cons a l ih =>
        intro i x h
        cases i with
        | zero => simp at h; subst h; exact ⟨rfl, rfl⟩
        | succ i =>
          have := ih i x (by simpa using h)
          rw [List.flatMap_cons, show (i + 1) * 2 = i * 2 + 2 by omega, show i * 2 + 2 + 1 = (i * 2 + 1) + 2 by omega]
          exact this
    have hRn : Rows NwK w 0 news ys := fun i x hx => by
      obtain ⟨a1, a2⟩ := hget ys i x hx
      refine ⟨?_, ?_⟩
      · show news[0 + i * 2 + 0]? = _
        rw [show 0 + i * 2 + 0 = i * 2 by omega]; exact a1
      · show news[0 + i * 2 + 1]? = _
        rw [show 0 + i * 2 + 1 = i * 2 + 1 by omega]; exact a2
    refine append_own (P := Try.prog) und63 g1 g2 g3 (by decide) rfl g4 h1' (news := news) (by rw [hm]; exact hlen ys) (fun j u hu => ?_) (fun u hu => ?_) (by omega) fun p' c' w' f' o' hp' => hk p' c' w' f' ⟨_, o', by simp [h2, hm], ?_⟩ hp'
    · rw [add_mk, hB.cell]
      have hj : j < ys.length * 2 := by rw [← hlen]; exact (List.getElem?_eq_some_iff.1 hu).1
      have hj2 : j / 2 < ys.length := by omega
      obtain ⟨b1, b2⟩ := hR (j / 2) ys[j / 2] (List.getElem?_eq_getElem hj2)
      obtain ⟨a1, a2⟩ := hget ys (j / 2) ys[j / 2] (List.getElem?_eq_getElem hj2)
      have b1 : us[o + j / 2 * 2 + 0]? = some (.int .i64 ys[j / 2].1) := b1
      have b2 : us[o + j / 2 * 2 + 1]? = some (.int .i64 ys[j / 2].2) := b2
      rcases Nat.mod_two_eq_zero_or_one j with h0 | h0
      · have e : j = j / 2 * 2 := by omega
        have hu : news[j]? = some u := hu
        have a1 : news[j / 2 * 2]? = _ := a1
        rw [e, a1] at hu
        rw [← hu, show o + j = o + j / 2 * 2 + 0 by omega]; exact b1
      · have e : j = j / 2 * 2 + 1 := by omega
        have hu : news[j]? = some u := hu
        have a2 : news[j / 2 * 2 + 1]? = _ := a2
        rw [e, a2] at hu
        rw [← hu, show o + j = o + j / 2 * 2 + 1 by omega]; exact b2
    · obtain ⟨y, _, hy⟩ := List.mem_flatMap.1 hu
      simp only [List.mem_cons, List.not_mem_nil, or_false] at hy
      rcases hy with rfl | rfl <;> rfl
    · have hd : ∀ b u us, bl p b → Blk w b u us → u ∉ NwK.dp := fun b u us hb hB h => by cases h
      exact (h3.fr f' hd).append (by rw [h1'.1, h2]) (hRn.fr f' hd)
section
variable {w : World} {p : Option Addr} {c : Nat} {l : List Itm} {key : Int}
/-- SKAt. -/
theorem F35_spec {k : Value → W} (hS : Sl NwK w p l) (hl : l.length < 4000000000) (so : SoI l) (hk : k (.int .i64 ((loI key l).length : Nat)) w) : F35 k p l.length c key w := by
  unfold F35
  refine F35_L1_rule (I := fun p' l' c' k' n w' => p' = p ∧ l' = l.length ∧ k' = key ∧ w' = w ∧ ∃ t : Nat, n = ((t : Nat) : Int) ∧ t ≤ l.length ∧ ∀ x ∈ l.take t, x.1 < key)
    (μ := fun p' l' c' k' n w' => l.length - n.toNat) ?_ ⟨rfl, rfl, rfl, rfl, 0, rfl, Nat.zero_le _, fun x hx => by simp at hx⟩
  rintro _ l' c' _ _ _ ⟨rfl, e1, ek, ew, t, rfl, ht, hall⟩
  obtain rfl := ek.symm; obtain rfl := ew.symm
  unfold F35_L1
  rw [e1]
  have fin : (∀ x, l[t]? = some x → key ≤ x.1) → k (.int .i64 ((t : Nat) : Int)) w := fun h => by
    have := (lo_take so hall h).1
    rw [this, List.length_take, Nat.min_eq_left ht] at hk
    exact hk
  by_cases hlt : t < l.length
  · rw [decide_eq_true (show ((t : Nat) : Int) < ((l.length : Nat) : Int) by omega), BIf_true]
    have hx : l[t]? = some l[t] := List.getElem?_eq_getElem hlt
    obtain ⟨q, o, rfl, h0, h1⟩ := hS.get hx
    simp only [NN_mk, Int.toNat_natCast, add_mk]
    refine ⟨by omega, LoadT_int.2 ⟨_, h0, ?_⟩⟩
    refine BIf_intro (fun hc => ?_) fun hc => fin fun x h => ?_
    · have hc := of_decide_eq_true hc
      rw [add64 (by omega)]
      refine ⟨⟨by trivial, by trivial, by trivial, by trivial, t + 1, by trivial, hlt, fun x h => ?_⟩, ?_⟩
      · rw [take_snoc hx] at h
        rcases List.mem_append.1 h with h | h
        · exact hall x h
        · simp at h; rw [h]; exact hc
      · show l.length - ((t + 1 : Nat) : Int).toNat < l.length - ((t : Nat) : Int).toNat
        omega
    · have hc := of_decide_eq_false hc
      rw [hx] at h; cases h; omega
  · rw [decide_eq_false (show ¬ ((t : Nat) : Int) < ((l.length : Nat) : Int) by omega), BIf_false]
    exact fin fun x h => by
      have := (List.getElem?_eq_some_iff.1 h).1; omega
theorem back_ib {f : Int → Int → Bool → W} {x y : Int} {b : Bool} {w : World} (h : f x y b w) : Back (.tup [(.agg [(.int .i64), (.int .i64)]), (.one .bool)]) f (.returned (.tuple #[.agg #[.int .i64 x, .int .i64 y], .bool b])) w := ⟨(x, y, b, ()), rfl, h⟩
/-- SKGet. -/
theorem F18_spec {k : Value → W} (hS : Sl NwK w p l) (hl : l.length < 4000000000) (so : SoI l) (hk : ∀ w', Fr (fun _ => False) w w' → k (.tuple #[.agg #[.int .i64 ((findI key l).getD (0, 0)).1, .int .i64 ((findI key l).getD (0, 0)).2], .bool (findI key l).isSome]) w') : F18 k p l.length c key w := by
  unfold F18
  refine new_intro fun n w1 e1 b1 f1 z1 => ?_
  have hS1 := hS.fr0 f1
  refine F35_call (F35_spec hS1 hl so (back_int ?_))
  have hsp := lo_hiI so key
  have hlen := len_split hsp
  have no : findI key l = none → F18_J1 k p l.length c ⟨n, 0, none⟩ ((loI key l).length : Nat) true w1 := fun hf => by
    unfold F18_J1
    rw [BIf_true]
    refine store_intro (i := 0) b1 (by simp) rfl fun w2 b2 f2 z2 => ?_
    refine store_intro (i := 1) b2 (by simp) rfl fun w3 b3 f3 z3 => ?_
    refine load_int (i := 0) b3 rfl (load_int (i := 1) b3 rfl ?_)
    have := hk w3 (f1.trans (f2.trans f3 fun _ h => .inl h) fun b h => .inr (by have h : b = n := h; omega))
    rw [hf] at this
    exact this
  rcases hi_headI (k := key) so with ⟨z, B, e1', e2, e3, e4⟩ | ⟨e2, e3, e4⟩
  · have hz : l[(loI key l).length]? = some z := get_split (B := B) (by rw [← e1']; exact hsp)
    have hlt := (List.getElem?_eq_some_iff.1 hz).1
    rw [show ((((loI key l).length : Nat) : Int) == ((l.length : Nat) : Int)) = false by rw [beq_eq_false_iff_ne]; omega, BIf_false]
    obtain ⟨q, o, rfl, h0, h1⟩ := hS1.get hz
    simp only [NN_mk, Int.toNat_natCast, add_mk]
    refine ⟨by omega, LoadT_int.2 ⟨_, h0, ?_⟩⟩
    rw [e2, show (key != key) = false by simp]
    unfold F18_J1
    rw [BIf_false]
    simp only [NN_mk, Int.toNat_natCast, add_mk]
    refine ⟨by omega, LoadT_int.2 ⟨_, h0, LoadT_int.2 ⟨_, h1, ?_⟩⟩⟩
    refine store_intro (i := 0) b1 (by simp) rfl fun w2 b2 f2 z2 => ?_
    refine store_intro (i := 1) b2 (by simp) rfl fun w3 b3 f3 z3 => ?_
    refine load_int (i := 0) b3 rfl (load_int (i := 1) b3 rfl ?_)
    have := hk w3 (f1.trans (f2.trans f3 fun _ h => .inl h) fun b h => .inr (by have h : b = n := h; omega))
    rw [e3] at this
    exact this
  · cases hh : hiI key l with
    | nil =>
      rw [hh] at hlen
      rw [show ((((loI key l).length : Nat) : Int) == ((l.length : Nat) : Int)) = true by rw [beq_iff_eq]; simp at hlen; omega, BIf_true]
      exact no e3
    | cons z B =>
      have hz : l[(loI key l).length]? = some z := get_split (B := B) (by rw [← hh]; exact hsp)
      have hlt := (List.getElem?_eq_some_iff.1 hz).1
      rw [show ((((loI key l).length : Nat) : Int) == ((l.length : Nat) : Int)) = false by rw [beq_eq_false_iff_ne]; omega, BIf_false]
      obtain ⟨q, o, rfl, h0, h1⟩ := hS1.get hz
      rw [NN_mk, Req_iff, Int.toNat_natCast, add_mk]
      refine ⟨by omega, LoadT_int.2 ⟨_, h0, ?_⟩⟩
      rw [show (z.1 != key) = true by rw [bne_iff_ne]; exact e2 z (List.mem_of_getElem? hz)]
      exact no e3
/-- SKDrop. -/
theorem F20_spec {k : Value → W} {v : Int} (hS : Ls w p c l) (hl : l.length < 2000000000) (so : SoI l) (hk : ∀ w' p' c', Ls w' p' c' (delI l (key, v)) → Fr (fun _ => False) w w' → k (.slice p' (delI l (key, v)).length c') w') : F20 k p l.length c key w := by
  unfold F20
  refine F18_call (F18_spec hS.1 (by omega) so fun w1 f1 => back_ib ?_)
  refine new_intro fun n w2 e2 b2 f2 z2 => ?_
  refine store_intro (i := 0) b2 (by simp) rfl fun w3 b3 f3 z3 => ?_
  refine store_intro (i := 1) b3 (by simp) rfl fun w4 b4 f4 z4 => ?_
  have f04 : Fr (fun _ => False) w w4 := f1.trans (f2.trans (f3.trans f4 fun _ h => .inl h) fun b h => .inr (by have h : b = n := h; omega)) fun _ h => h.elim
  have hS4 := hS.fr0 f04
  have hsp := lo_hiI so key
  rcases hi_headI (k := key) so with ⟨z, B, e1', e2', e3, e4'⟩ | ⟨e2', e3, e4'⟩
  · rw [e3]
    rw [show (!(some z).isSome) = false from rfl, BIf_false]
    refine F35_call (F35_spec hS4.1 (by omega) so (back_int ?_))
    obtain ⟨i, g1, g2, g3, g4⟩ := inf67
    refine build_none und63 g1 fun w5 f5 b5 z5 => ?_
    have o5 : SlO NwK w5 (some ⟨w4.heap.size, 0, none⟩) 0 0 [] := SlO.made (K := NwK) b5 rfl (by decide) rfl (Rows.nil _ _ _ _)
    have hS5 := hS4.fr0 f5
    have hlen := len_split hsp
    rw [e1', List.length_cons] at hlen
    have hc := hS.2
    rw [Req_iff, Int.toNat_natCast]
    refine ⟨⟨by omega, by omega⟩, ?_⟩
    have ht1 : l.take (loI key l).length = loI key l := take_split hsp
    have ht2 : l.drop ((loI key l).length + 1) = B := drop_split1 (z := z) (by rw [← e1']; exact hsp)
    have hs1 : Sl NwK w5 (sliceA p 0 c 2) (loI key l) := by
      have := (hS5.1.drop (n := 0) (c := c) hc).take (loI key l).length
      rw [List.drop_zero, ht1] at this
      exact this
    refine app_ls o5 hs1 (by rw [Nat.sub_zero]) (by omega) fun p6 c6 w6 f6 o6 hp6 => ?_
    rw [show addI .i64 (((loI key l).length : Nat) : Int) 1 = (((loI key l).length + 1 : Nat) : Int) from add64 (by omega), Req_iff, Int.toNat_natCast]
    refine ⟨⟨by omega, by omega⟩, ?_⟩
    have f46 : Fr (fun _ => False) w4 w6 := f5.trans f6 fun b ⟨x, hx, e⟩ => .inr (by cases hx; exact Nat.le_of_eq e)
    have hS6 := hS4.fr0 f46
    have hs2 : Sl NwK w6 (sliceA p ((loI key l).length + 1) c 2) B := by
      have := hS6.1.drop (n := (loI key l).length + 1) (c := c) hc
      rw [ht2] at this
      exact this
    refine app_ls o6 hs2 (by omega) (by omega) fun p7 c7 w7 f7 o7 hp7 => ?_
    have hlen7 := o7.len
    rw [List.nil_append] at o7
    have hdel : delI l (key, v) = loI key l ++ B := by
      show loI key l ++ gtI key l = _; rw [e4']
    rw [hlen7, List.nil_append, ← hdel]
    rw [← hdel] at o7
    refine hk w7 p7 c7 o7.ls ((f04.trans f46 fun _ h => h.elim).trans f7 fun b hb => .inr ?_)
    have h5 := f04.size
    have h6 := f5.size
    rcases hp6 b hb with ⟨x, hx, e⟩ | h
    · cases hx; have e : w4.heap.size = b := e; omega
    · omega
  · rw [e3]
    rw [show (!(none : Option Itm).isSome) = true from rfl, BIf_true]
    have hdel : delI l (key, v) = l := by
      show loI key l ++ gtI key l = _; rw [e4', ← hsp]
    have := hk w4 p c (by rw [hdel]; exact hS4) f04
    rw [hdel] at this
    exact this
end
end Go.Proofs.Ytfokodpnoiilbaa.E
