/-
  Range trees in memory: new nodes; a node is put into a list.
-/
import Derived.Test.YtfokodpnoiilbaaR1
namespace Go.Proofs.Ytfokodpnoiilbaa.E
open Go
set_option linter.unusedSimpArgs false
set_option linter.unusedVariables false
set_option maxRecDepth 100000
set_option maxHeartbeats 8000000

theorem Own.full {w : World} {e : TypeId} {q l c : Nat} {vs : List Value} (h : Own w e (some ⟨q, 0, none⟩) l c vs) : ∃ rest, Blk w q e (vs ++ rest) ∧ (vs ++ rest).length = c ∧ c ≤ maxLen := by
  rcases h.2 with ⟨h, _⟩ | ⟨q', rest, h', hb, hc, hm⟩
  · cases h
  · cases h'; exact ⟨rest, hb, hc, hm⟩
theorem Own.mk' {w : World} {e : TypeId} {q l c : Nat} {vs rest : List Value} (h : Blk w q e (vs ++ rest)) (hl : vs.length = l) (hc : (vs ++ rest).length = c) (hm : c ≤ maxLen) : Own w e (some ⟨q, 0, none⟩) l c vs :=
  ⟨hl, .inr ⟨q, rest, rfl, h, hc, hm⟩⟩
theorem bl_q {q b : Nat} : bl (some ⟨q, 0, none⟩) b ↔ b = q := ⟨fun ⟨a, h, e⟩ => by cases h; exact e.symm, fun h => ⟨_, rfl, h.symm⟩⟩
theorem shift_in {α : Type} {l : List α} {x y : α} {i : Nat} (hi : i ≤ l.length) :
    (((l ++ [x]).take (i + 1)) ++ l.drop i ++ (l ++ [x]).drop (i + 1 + (l.drop i).length)).set i y = l.take i ++ y :: l.drop i := by
  have e3 : (l ++ [x]).drop (i + 1 + (l.drop i).length) = [] := List.drop_eq_nil_of_le (by simp; omega)
  rw [e3, List.append_nil]
  by_cases h : i < l.length
  · have e1 : (l ++ [x]).take (i + 1) = l.take i ++ [l[i]] := by
      rw [List.take_append_of_le_length (by omega), List.take_add_one, List.getElem?_eq_getElem h]; rfl
    rw [e1, List.append_assoc, List.set_append_right _ _ (by simp; omega), List.length_take]
    rw [show i - min i l.length = 0 by omega]; rfl
  · have : i = l.length := by omega
    subst this
    rw [List.take_of_length_le (by simp), List.drop_length, List.append_nil, List.set_append_right _ _ (by simp), List.take_length]
    simp
theorem sliceAi {q i c : Nat} (h : i < c) : sliceA (some ⟨q, 0, none⟩) i c 1 = some ⟨q, i, none⟩ := by
  unfold sliceA
  rw [if_neg (by omega), Option.map_some, add_mk]; simp
theorem und186 : Try.prog.underlying 186 = some (.slice 221) := by kernel_rfl
theorem inf221 : ∃ i, Try.prog.info? 221 = some i ∧ i.zero = some (.pointer none) ∧ i.size = 1 ∧ i.bytes ≤ 4096 := ⟨_, rfl, by kernel_rfl, by kernel_rfl, Nat.le_of_ble_eq_true (by kernel_rfl)⟩
theorem ptrs_one (l : List Nat) : ∀ u ∈ ptrs l, u.oneCell' = true := fun u hu => by obtain ⟨x, _, rfl⟩ := List.mem_map.1 hu; rfl
section
variable {k : Value → W} {w : World}
/-- A pointer is put into the middle of a list. -/
theorem mid_put {b t o i l c nb : Nat} {p : Option Addr} {us : List Value} {kids : List Nat} {ty ty2 : TypeId} {cs cs2 : Array Bool} {K : W}
    (hB : Blk w b t us) (ho : o < us.length) (hO : Own w 221 p l c (ptrs kids)) (hbp : ∀ x, bl p x → x ≠ b) (hi : i < l) (hl : l < 100000)
    (hk : ∀ w' p' c', Blk w' b t (us.set o (.slice p' (l + 1) c')) → Own w' 221 p' (l + 1) c' (ptrs (kids.take i ++ nb :: kids.drop i)) → (∀ x, bl p' x → bl p x ∨ w.heap.size ≤ x) → Fr (fun x => x = b ∨ bl p x) w w' → K w') :
    RawT Try.prog (Instr.buildSlice 186 1 [(0, .pointer none)].toArray) (.s (.one .slice)) (fun a m d => NextT Try.prog (builtin .append #[186, 186] ty cs [.slice p l c, .slice a m d].toArray) (.s (.one .slice)) fun s20p s20l s20c =>
      Store1 ⟨b, o, none⟩ (.slice s20p s20l s20c) <|
      Drw <|
      LoadT .slice ⟨b, o, none⟩ fun s23p s23l s23c =>
      Req (0 ≤ addI .i64 ((i : Nat) : Int) 1 ∧ addI .i64 ((i : Nat) : Int) 1 ≤ ((s23l : Nat) : Int)) <|
      LoadT .slice ⟨b, o, none⟩ fun s25p s25l s25c =>
      Req (0 ≤ ((i : Nat) : Int) ∧ ((i : Nat) : Int) ≤ ((s25l : Nat) : Int)) <|
      NextT Try.prog (builtin .copy #[186, 186] ty2 cs2 [.slice (sliceA s23p ((addI .i64 ((i : Nat) : Int) 1).toNat) s23c 1) (s23l - ((addI .i64 ((i : Nat) : Int) 1).toNat)) (s23c - ((addI .i64 ((i : Nat) : Int) 1).toNat)), .slice (sliceA s25p ((i : Nat) : Int).toNat s25c 1) (s25l - ((i : Nat) : Int).toNat) (s25c - ((i : Nat) : Int).toNat)].toArray) (.s (.one (.int .i64))) fun x26 =>
      Chk1 ⟨b, o, none⟩ (.slice s25p s25l s25c) <|
      Chk1 ⟨b, o, none⟩ (.slice s23p s23l s23c) <|
      LoadT .slice ⟨b, o, none⟩ fun s28p s28l s28c =>
      NN s28p fun a29 =>
      Req (0 ≤ ((i : Nat) : Int) ∧ ((i : Nat) : Int) < ((s28l : Nat) : Int)) <|
      Store1 (a29.add ((i : Nat) : Int).toNat) (.pointer (some ⟨nb, 0, none⟩)) K) w := by
  obtain ⟨ie, g1, g2, g3, g4⟩ := inf221
  have h1 := ptrs_one kids
  generalize hvs : ptrs kids = vs at *
  have hvl := hO.1
  have hblt := hB.lt
  refine append1 (P := Try.prog) und186 g1 g2 g3 rfl g4 hO (v := .pointer none) rfl rfl (by omega) fun p' c' w1 f1 o1 hp' z1 => ?_
  obtain ⟨q, rest0, rfl, _, _, _⟩ := o1.get (by omega)
  have hq := hp' q ⟨_, rfl, rfl⟩
  have hbq : b ≠ q := by
    rcases hq with h | h
    · exact fun e => hbp q h e.symm
    · omega
  have hB1 := hB.fr f1 fun h => hbp b h rfl
  refine store_intro hB1 ho rfl fun w2 b2 f2 z2 => ?_
  refine drw_intro fun w3 f3 z3 => ?_
  have b3 := b2.fr f3 id
  have o3 := (o1.fr f2 fun x hx => by rw [bl_q.1 hx]; exact Ne.symm hbq).fr f3 fun _ _ => id
  have hu3 : (us.set o (.slice (some ⟨q, 0, none⟩) (l + 1) c'))[o]? = some (.slice (some ⟨q, 0, none⟩) (l + 1) c') := by rw [List.getElem?_set, if_pos rfl, if_pos ho]
  obtain ⟨rest, hq3, hqc, hqm⟩ := o3.full
  have hqc2 : l + 1 + rest.length = c' := by rw [← hqc]; simp; omega
  refine load_slice b3 hu3 ?_
  rw [addI_i64 (by omega) (by omega), show ((i : Nat) : Int) + 1 = ((i + 1 : Nat) : Int) by omega, Int.toNat_natCast, Int.toNat_natCast]
  refine ⟨by omega, ?_⟩
  refine load_slice b3 hu3 ⟨by omega, ?_⟩
  rw [sliceAi (by omega), sliceAi (by omega)]
  refine copy_intro (src := vs.drop i) und186 (by rw [g1, Option.map_some, g3]) hq3 (by rw [List.length_drop]; omega) (fun j u hj => ?_) (by simp; omega) (fun u hu' => h1 u (List.mem_of_mem_drop hu')) fun w4 b4 f4 z4 => ?_
  · rw [add_mk, hq3.cell]
    rw [List.getElem?_drop] at hj
    have := (List.getElem?_eq_some_iff.1 hj).1
    rw [List.append_assoc, List.getElem?_append_left (by omega)]; exact hj
  have hq4 := b3.fr f4 hbq
  refine ⟨by rw [hq4.cell]; exact hu3, ⟨by rw [hq4.cell]; exact hu3, ?_⟩⟩
  refine load_slice hq4 hu3 ?_
  rw [NN_mk, add_mk, Nat.zero_add]
  refine ⟨by omega, ?_⟩
  have e4 : (vs ++ [Value.pointer none] ++ rest).take (i + 1) ++ vs.drop i ++ (vs ++ [Value.pointer none] ++ rest).drop (i + 1 + (vs.drop i).length) = ((vs ++ [Value.pointer none]).take (i + 1) ++ vs.drop i ++ (vs ++ [Value.pointer none]).drop (i + 1 + (vs.drop i).length)) ++ rest := by
    rw [List.take_append_of_le_length (by simp; omega), List.drop_append_of_le_length (by simp; omega)]
    simp only [List.append_assoc]
  rw [e4] at b4
  refine store_intro b4 (by simp; omega) rfl fun w5 b5 f5 z5 => ?_
  rw [List.set_append_left _ _ (by simp; omega), shift_in (by omega)] at b5
  refine hk w5 (some ⟨q, 0, none⟩) c' (hq4.fr f5 hbq) ?_ (fun x hx => hp' x hx) ?_
  · have e : ptrs (kids.take i ++ nb :: kids.drop i) = vs.take i ++ .pointer (some ⟨nb, 0, none⟩) :: vs.drop i := by
      rw [← hvs]; unfold ptrs
      rw [List.map_append, List.map_cons, List.map_take, List.map_drop]
    rw [e]
    exact Own.mk' b5 (by simp; omega) (by simp; omega) hqm
  have fq : ∀ x, x = q → (x = b ∨ bl p x) ∨ w.heap.size ≤ x := fun x hx => by
    rw [hx]
    rcases hq with h | h
    · exact .inl (.inr h)
    · exact .inr h
  exact ((((f1.mono fun x h => .inl (.inr h)).trans f2 fun x h => .inl (.inl h)).trans f3 fun _ h => h.elim).trans f4 fun x h => fq x h).trans f5 fun x h => fq x h
/-- A pointer is put at the end of a list. -/
theorem end_put {b t o l c nb : Nat} {p : Option Addr} {us : List Value} {kids : List Nat} {ty : TypeId} {cs : Array Bool} {K : W}
    (hB : Blk w b t us) (ho : o < us.length) (hO : Own w 221 p l c (ptrs kids)) (hbp : ∀ x, bl p x → x ≠ b) (hl : l < 100000)
    (hk : ∀ w' p' c', Blk w' b t (us.set o (.slice p' (l + 1) c')) → Own w' 221 p' (l + 1) c' (ptrs (kids ++ [nb])) → (∀ x, bl p' x → bl p x ∨ w.heap.size ≤ x) → Fr (fun x => x = b ∨ bl p x) w w' → K w') :
    RawT Try.prog (Instr.buildSlice 186 1 [(0, .pointer (some ⟨nb, 0, none⟩))].toArray) (.s (.one .slice)) (fun a m d => NextT Try.prog (builtin .append #[186, 186] ty cs [.slice p l c, .slice a m d].toArray) (.s (.one .slice)) fun s20p s20l s20c =>
      Store1 ⟨b, o, none⟩ (.slice s20p s20l s20c) K) w := by
  obtain ⟨ie, g1, g2, g3, g4⟩ := inf221
  have hblt := hB.lt
  refine append1 (P := Try.prog) und186 g1 g2 g3 rfl g4 hO (v := .pointer (some ⟨nb, 0, none⟩)) rfl rfl (by omega) fun p' c' w1 f1 o1 hp' z1 => ?_
  have hB1 := hB.fr f1 fun h => hbp b h rfl
  refine store_intro hB1 ho rfl fun w2 b2 f2 z2 => ?_
  have hne : ∀ x, bl p' x → x ≠ b := fun x hx => by
    rcases hp' x hx with h | h
    · exact hbp x h
    · omega
  refine hk w2 p' c' b2 ?_ hp' ((f1.mono fun x h => .inl (.inr h)).trans f2 fun x h => .inl (.inl h))
  rw [ptrs_append]
  exact o1.fr f2 fun x hx e => hne x hx e
variable {base tb num dm pl pc : Nat} {pp : Option Addr} {D : List Nat} {s : RSt}
/-- Where the list of a node lies. -/
theorem la_eq (tb b : Nat) : ∃ o, la tb b = ⟨b, o, none⟩ ∧ (b = tb → o = 0) ∧ (b ≠ tb → o = 2) := by
  unfold la
  by_cases e : b = tb
  · rw [if_pos e]; exact ⟨0, by rw [e], fun _ => rfl, fun h => absurd e h⟩
  · rw [if_neg e]; exact ⟨2, rfl, fun h => absurd h e, fun _ => rfl⟩
/-- The block of a node. -/
def bsT (tb x : Nat) : TypeId := if x = tb then 188 else 224
def bsC (tb num dm : Nat) (pp : Option Addr) (pl pc : Nat) (x : Nat) (n : Rd) : List Value := if x = tb then topc n num dm pp pl pc else rdc n
theorem RM.blk (h : RM w base tb num dm pp pl pc D s) {x : Nat} (hx : x = tb ∨ x ∈ D) : Blk w x (bsT tb x) (bsC tb num dm pp pl pc x (s x)) := by
  unfold bsT bsC
  rcases hx with rfl | hx
  · rw [if_pos rfl, if_pos rfl]; exact h.top
  · have hne : x ≠ tb := fun e => h.tbD (e ▸ hx)
    rw [if_neg hne, if_neg hne]; exact h.nodes x hx
theorem bsT_ne (tb x : Nat) : bsT tb x ≠ 221 ∧ bsT tb x ≠ 2 := by unfold bsT; split <;> decide
theorem RM.own_ne (h : RM w base tb num dm pp pl pc D s) {x y : Nat} (hx : x = tb ∨ x ∈ D) (hy : y = tb ∨ y ∈ D) : ∀ z, bl (s x).p z → z ≠ y := fun z hz e => by
  obtain ⟨us, hu⟩ := (h.own x hx).blk hz
  rw [e] at hu
  exact (bsT_ne tb y).1 (hu.unique (h.blk hy)).1.symm
theorem bsC_set (tb num dm : Nat) (pp : Option Addr) (pl pc x : Nat) (n : Rd) (p' : Option Addr) (c' : Nat) (kids' : List Nat) {o : Nat} (h1 : x = tb → o = 0) (h2 : x ≠ tb → o = 2) : (bsC tb num dm pp pl pc x n).set o (.slice p' kids'.length c') = bsC tb num dm pp pl pc x { n with p := p', c := c', kids := kids' } := by
  unfold bsC
  by_cases e : x = tb
  · rw [if_pos e, if_pos e, h1 e]; rfl
  · rw [if_neg e, if_neg e, h2 e]; rfl
theorem bsC_len {tb num dm : Nat} {pp : Option Addr} {pl pc x : Nat} {n : Rd} {o : Nat} (h1 : x = tb → o = 0) (h2 : x ≠ tb → o = 2) : o < (bsC tb num dm pp pl pc x n).length := by
  unfold bsC
  by_cases e : x = tb
  · rw [if_pos e, h1 e]; simp [topc]
  · rw [if_neg e, h2 e]; simp [rdc]
/-- A list has turned. -/
theorem RM.kids {w' : World} {x : Nat} {p' : Option Addr} {c' : Nat} {kids' : List Nat} (h : RM w base tb num dm pp pl pc D s) (hx : x = tb ∨ x ∈ D) (hB : Blk w' x (bsT tb x) (bsC tb num dm pp pl pc x { s x with p := p', c := c', kids := kids' })) (hO : Own w' 221 p' kids'.length c' (ptrs kids'))
    (hp : ∀ y, bl p' y → bl (s x).p y ∨ w.heap.size ≤ y) (f : Fr (fun y => y = x ∨ bl (s x).p y) w w') (hk : ∀ c ∈ kids', c ∈ D) : RM w' base tb num dm pp pl pc D (upR s x { s x with p := p', c := c', kids := kids' }) := by
  have nT : ∀ {b u : Nat} {us : List Value}, (b = x ∨ bl (s x).p b) → Blk w b u us → u = bsT tb x ∨ u = 221 := fun {b u us} hb hu => by
    rcases hb with rfl | hb
    · exact .inl (hu.unique (h.blk hx)).1
    · obtain ⟨us', hu'⟩ := (h.own x hx).blk hb
      exact .inr (hu.unique hu').1
  have blk' : ∀ y, (y = tb ∨ y ∈ D) → Blk w' y (bsT tb y) (bsC tb num dm pp pl pc y ((upR s x { s x with p := p', c := c', kids := kids' }) y)) := fun y hy => by
    by_cases e : y = x
    · subst e; rw [upR_same]; exact hB
    · rw [upR_ne e]
      refine (h.blk hy).fr f fun hs => ?_
      rcases hs with hs | hs
      · exact e hs
      · exact h.own_ne hx hy y hs rfl
  refine ⟨fun b hb => ?_, ?_, fun b hb => ?_, fun b b' hb hb' hne y hy hy' => ?_, fun b hb c hc => ?_, fun b hb z hz => ?_, fun b hb => ?_⟩
  · have := blk' b (.inr hb)
    have hne : b ≠ tb := fun e => h.tbD (e ▸ hb)
    unfold bsT bsC at this
    rw [if_neg hne, if_neg hne] at this
    exact this
  · have := blk' tb (.inl rfl)
    unfold bsT bsC at this
    rw [if_pos rfl, if_pos rfl] at this
    exact this
  · by_cases e : b = x
    · subst e; rw [upR_same]; exact hO
    · rw [upR_ne e]
      refine (h.own b hb).fr f fun y hy hs => ?_
      rcases hs with hs | hs
      · exact h.own_ne hb hx y hy hs
      · exact h.dj b x hb hx e y hy hs
  · by_cases e : b = x
    · subst e
      rw [upR_same] at hy
      rw [upR_ne (Ne.symm hne)] at hy'
      rcases hp y hy with h1 | h1
      · exact h.dj b b' hb hb' hne y h1 hy'
      · have := (h.own b' hb').lt hy'; omega
    · rw [upR_ne e] at hy
      by_cases e' : b' = x
      · subst e'
        rw [upR_same] at hy'
        rcases hp y hy' with h1 | h1
        · exact h.dj b b' hb hb' hne y hy h1
        · have := (h.own b hb).lt hy; omega
      · rw [upR_ne e'] at hy'
        exact h.dj b b' hb hb' hne y hy hy'
  · by_cases e : b = x
    · subst e; rw [upR_same] at hc; exact hk c hc
    · rw [upR_ne e] at hc; exact h.kd b hb c hc
  · have hz' : (s b).e = some z := by
      by_cases e : b = x
      · subst e; rw [upR_same] at hz; exact hz
      · rw [upR_ne e] at hz; exact hz
    refine (h.ok b hb z hz').fr f fun y u us hs hu => ?_
    rcases nT hs hu with e | e
    · rw [e]; exact (bsT_ne tb x).2
    · rw [e]; decide
  · by_cases e : b = x
    · subst e
      rw [upR_same]
      refine ⟨(h.lo b hx).1, fun y hy => ?_⟩
      rcases hp y hy with h1 | h1
      · exact (h.lo b hx).2 y h1
      · have := (h.lo b hx).1
        have := (h.blk hx).lt; omega
    · rw [upR_ne e]; exact h.lo b hb
/-- A new node. -/
theorem RM.new {w' : World} {c : Nat} {n : Rd} (h : RM w base tb num dm pp pl pc D s) (f : Fr (fun _ => False) w w') (hc : w.heap.size ≤ c) (hB : Blk w' c 224 (rdc n)) (hO : Own w' 221 n.p n.kids.length n.c (ptrs n.kids)) (hp : ∀ y, bl n.p y → w.heap.size ≤ y) (hkd : n.kids = []) (ok : ∀ x, n.e = some x → DtOk w' x) :
    RM w' base tb num dm pp pl pc (c :: D) (upR s c n) := by
  have h' := h.fr0 f
  have ntb : c ≠ tb := fun e => by have := h.top.lt; omega
  have nD : c ∉ D := fun hb => by have := (h.nodes c hb).lt; omega
  have sb : ∀ b, b = tb ∨ b ∈ D → upR s c n b = s b := fun b hb => upR_ne fun e => by
    rcases hb with hb | hb
    · exact ntb (e ▸ hb)
    · exact nD (e ▸ hb)
  have cas : ∀ b, b = tb ∨ b ∈ c :: D → b = c ∨ (b = tb ∨ b ∈ D) := fun b hb => by
    rcases hb with hb | hb
    · exact .inr (.inl hb)
    · rcases List.mem_cons.1 hb with hb | hb
      · exact .inl hb
      · exact .inr (.inr hb)
  have hbt : base ≤ w.heap.size := by
    have := (h.lo tb (.inl rfl)).1
    have := h.top.lt; omega
  refine ⟨fun b hb => ?_, ?_, fun b hb => ?_, fun b b' hb hb' hne y hy hy' => ?_, fun b hb d hd => ?_, fun b hb z hz => ?_, fun b hb => ?_⟩
  · rcases List.mem_cons.1 hb with rfl | hb
    · rw [upR_same]; exact hB
    · rw [sb b (.inr hb)]; exact h'.nodes b hb
  · rw [sb tb (.inl rfl)]; exact h'.top
  · rcases cas b hb with rfl | hb
    · rw [upR_same]; exact hO
    · rw [sb b hb]; exact h'.own b hb
  · rcases cas b hb with rfl | hb1
    · rcases cas b' hb' with rfl | hb2
      · exact hne rfl
      · rw [upR_same] at hy
        rw [sb b' hb2] at hy'
        have := hp y hy
        have := (h.own b' hb2).lt hy'; omega
    · rw [sb b hb1] at hy
      rcases cas b' hb' with rfl | hb2
      · rw [upR_same] at hy'
        have := hp y hy'
        have := (h.own b hb1).lt hy; omega
      · rw [sb b' hb2] at hy'
        exact h.dj b b' hb1 hb2 hne y hy hy'
  · rcases cas b hb with rfl | hb
    · rw [upR_same, hkd] at hd; cases hd
    · rw [sb b hb] at hd; exact List.mem_cons_of_mem _ (h.kd b hb d hd)
  · rcases List.mem_cons.1 hb with rfl | hb
    · rw [upR_same] at hz; exact ok z hz
    · rw [sb b (.inr hb)] at hz; exact h'.ok b hb z hz
  · rcases cas b hb with rfl | hb
    · rw [upR_same]
      exact ⟨by omega, fun y hy => by have := hp y hy; omega⟩
    · rw [sb b hb]; exact h.lo b hb
theorem inf221m : ∃ i, Try.prog.info? 221 = some i ∧ i.zero = some (.pointer none) ∧ i.size = 1 ∧ i.bytes ≤ 65536 := ⟨_, rfl, by kernel_rfl, by kernel_rfl, Nat.le_of_ble_eq_true (by kernel_rfl)⟩
theorem oneC_v (x : Dtn) : oneC x.v = true := rfl
/-- newNode. -/
theorem F128_spec {v : Int} {x : Dtn} {need : Bool} (h : RM w base tb num dm pp pl pc D s) (hx : DtOk w x)
    (hk : ∀ w' c n, c ∉ D → c ≠ tb → w.heap.size ≤ c → n.v = v → n.kids = [] → n.e = (if need = true then none else some x) → RM w' base tb num dm pp pl pc (c :: D) (upR s c n) → Fr (fun _ => False) w w' → k (.pointer (some ⟨c, 0, none⟩)) w') :
    F128 k v x.v need w := by
  unfold F128
  refine new_intro fun c w1 e1 b1 f1 z1 => ?_
  refine store_intro (i := 0) b1 (by simp) rfl fun w2 b2 f2 z2 => ?_
  have b2 : Blk w2 c 224 [.int .i64 v, .nilIface, .slice none 0 0] := b2
  have nD : c ∉ D := fun hb => by have := (h.nodes c hb).lt; omega
  have nt : c ≠ tb := fun e => by have := h.top.lt; omega
  have fc : Fr (fun y => y = c) w w2 := (f1.mono (S' := fun y => y = c) fun _ h => h.elim).trans f2 fun _ h => .inl h
  cases need with
  | true =>
    rw [BIf_true]
    obtain ⟨i, g1, g2, g3, g4⟩ := inf221m
    refine make_intro 0 10 und186 g1 g2 g3 rfl g4 (by omega) (by omega) fun w3 f3 o3 b3 z3 => ?_
    have b23 := b2.fr f3 id
    refine store_intro (i := 2) b23 (by simp) rfl fun w4 b4 f4 z4 => ?_
    have f04 : Fr (fun _ => False) w w4 := ((fc.trans f3 fun _ h => h.elim).trans f4 fun _ h => .inl h).mono fun y hy => .inr (by have hy : y = c := hy; omega)
    have z23 := f3.size
    refine hk w4 c ⟨v, none, some ⟨w2.heap.size, 0, none⟩, 10, []⟩ nD nt (by omega) rfl rfl rfl (h.new f04 (by omega) b4 ?_ (fun y hy => ?_) rfl (fun x hx => by cases hx)) f04
    · exact o3.fr f4 fun y hy e => by
        have := bl_q.1 hy
        have e : y = c := e
        omega
    · have := bl_q.1 hy; omega
  | false =>
    rw [BIf_false]
    refine Req_iff.2 ⟨rfl, ?_⟩
    refine store_intro (i := 1) b2 (by simp) rfl fun w3 b3 f3 z3 => ?_
    have f03 : Fr (fun _ => False) w w3 := (fc.trans f3 fun _ h => .inl h).mono fun y hy => .inr (by have hy : y = c := hy; omega)
    exact hk w3 c ⟨v, some x, none, 0, []⟩ nD nt (by omega) rfl rfl rfl (h.new f03 (by omega) b3 (Own.nil _ _) (fun y ⟨_, h, _⟩ => by cases h) rfl (fun x' hx' => by cases hx'; exact hx.fr0 f03)) f03
end
end Go.Proofs.Ytfokodpnoiilbaa.E
