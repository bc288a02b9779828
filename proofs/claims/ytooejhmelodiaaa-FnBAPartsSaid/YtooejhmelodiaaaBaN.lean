/-
  Sparse bit arrays: an element put in the middle; SetBit.
-/
import Derived.Test.YtooejhmelodiaaaBaM
namespace Go.Proofs.Ytooejhmelodiaaa.E
open Go
set_option linter.unusedSimpArgs false
set_option linter.unusedVariables false
set_option maxRecDepth 100000
set_option maxHeartbeats 4000000

theorem Own.full {w : World} {e : TypeId} {q l c : Nat} {vs : List Value} (h : Own w e (some ⟨q, 0, none⟩) l c vs) : ∃ rest, Blk w q e (vs ++ rest) ∧ (vs ++ rest).length = c ∧ c ≤ maxLen := by
  rcases h.2 with ⟨h, _⟩ | ⟨q', rest, h', hb, hc, hm⟩
  · cases h
  · cases h'; exact ⟨rest, hb, hc, hm⟩
theorem Own.mk' {w : World} {e : TypeId} {q l c : Nat} {vs rest : List Value} (h : Blk w q e (vs ++ rest)) (hl : vs.length = l) (hc : (vs ++ rest).length = c) (hm : c ≤ maxLen) : Own w e (some ⟨q, 0, none⟩) l c vs :=
  ⟨hl, .inr ⟨q, rest, rfl, h, hc, hm⟩⟩
theorem bl_q {q b : Nat} : bl (some ⟨q, 0, none⟩) b ↔ b = q := ⟨fun ⟨a, h, e⟩ => by cases h; exact e.symm, fun h => ⟨_, rfl, h.symm⟩⟩
theorem shift_in {α : Type} {l : List α} {x y : α} {i : Nat} (hi : i ≤ l.length) :
    (((l ++ [x]).take (i + 1)) ++ l.drop i ++ (l ++ [x]).drop (i + 1 + (l.drop i).length)).set i y = l.take i ++ y :: l.drop i := by
  have e3 : (l ++ [x]).drop (i + 1 + (l.drop i).length) = [] := List.drop_eq_nil_of_le (by simp; omega)
  rw [e3, List.append_nil]
  by_cases h : i < l.length
  · have e1 : (l ++ [x]).take (i + 1) = l.take i ++ [l[i]] := by
      rw [List.take_append_of_le_length (by omega), List.take_add_one, List.getElem?_eq_getElem h]; rfl
    rw [e1, List.append_assoc, List.set_append_right _ _ (by simp; omega), List.length_take]
    rw [show i - min i l.length = 0 by omega]; rfl
  · have : i = l.length := by omega
    subst this
    rw [List.take_of_length_le (by simp), List.drop_length, List.append_nil, List.set_append_right _ _ (by simp), List.take_length]
    simp
theorem sliceAi {q i c : Nat} (h : i < c) : sliceA (some ⟨q, 0, none⟩) i c 1 = some ⟨q, i, none⟩ := by
  unfold sliceA
  rw [if_neg (by omega), Option.map_some, add_mk]; simp
theorem at_plc {x y : Nat} {P : Sp} (e : P = lo x P ++ (x, y) :: hi x P) : P[plc x P]? = some (x, y) := by
  have h := congrArg (fun l => l[plc x P]?) e
  refine h.trans ?_
  show (lo x P ++ (x, y) :: hi x P)[(lo x P).length]? = some (x, y)
  rw [List.getElem?_append_right (Nat.le_refl _), Nat.sub_self]; rfl
/-- Elements of whole numbers. -/
def Us (vs : List Value) : Prop := ∀ u ∈ vs, u.oneCell' = true
section
variable {k : Value → W} {w : World}
/-- What is done where the place is not the end; e is the element's type, t' the slice's. -/
theorem mid_put {t' e b t o i l c : Nat} {p : Option Addr} {us vs : List Value} {v : Int} {ty ty2 : TypeId} {cs cs2 : Array Bool} {K : W} (hund : Try.prog.underlying t' = some (.slice e)) (hinf : ∃ i, Try.prog.info? e = some i ∧ i.zero = some (uv 0) ∧ i.size = 1 ∧ i.bytes ≤ 4096)
    (hB : Blk w b t us) (ho : o < us.length) (hO : Own w e p l c vs) (hbp : ∀ x, bl p x → x ≠ b) (hi : i < l) (hl : l < 100000) (h1 : Us vs)
    (hk : ∀ w' p' c', Blk w' b t (us.set o (.slice p' (l + 1) c')) → Own w' e p' (l + 1) c' (vs.take i ++ .int .u64 v :: vs.drop i) → (∀ x, bl p' x → bl p x ∨ w.heap.size ≤ x) → Fr (fun x => x = b ∨ bl p x) w w' → K w') :
    RawT Try.prog (Instr.buildSlice t' 1 [(0, .int .u64 0)].toArray) (.s (.one .slice)) (fun a m d => NextT Try.prog (builtin .append #[t', t'] ty cs [.slice p l c, .slice a m d].toArray) (.s (.one .slice)) fun s20p s20l s20c =>
      NN (some ⟨b, o, none⟩) fun a21 =>
      Store1 a21 (.slice s20p s20l s20c) <|
      Drw <|
      NN (some ⟨b, o, none⟩) fun a22 =>
      LoadT .slice a22 fun s23p s23l s23c =>
      Req (0 ≤ addI .i64 ((i : Nat) : Int) 1 ∧ addI .i64 ((i : Nat) : Int) 1 ≤ ((s23l : Nat) : Int)) <|
      NN (some ⟨b, o, none⟩) fun a24 =>
      LoadT .slice a24 fun s25p s25l s25c =>
      Req (0 ≤ ((i : Nat) : Int) ∧ ((i : Nat) : Int) ≤ ((s25l : Nat) : Int)) <|
      NextT Try.prog (builtin .copy #[t', t'] ty2 cs2 [.slice (sliceA s23p ((addI .i64 ((i : Nat) : Int) 1).toNat) s23c 1) (s23l - ((addI .i64 ((i : Nat) : Int) 1).toNat)) (s23c - ((addI .i64 ((i : Nat) : Int) 1).toNat)), .slice (sliceA s25p ((i : Nat) : Int).toNat s25c 1) (s25l - ((i : Nat) : Int).toNat) (s25c - ((i : Nat) : Int).toNat)].toArray) (.s (.one (.int .i64))) fun x26 =>
      Chk1 a24 (.slice s25p s25l s25c) <|
      Chk1 a22 (.slice s23p s23l s23c) <|
      NN (some ⟨b, o, none⟩) fun a27 =>
      LoadT .slice a27 fun s28p s28l s28c =>
      NN s28p fun a29 =>
      Req (0 ≤ ((i : Nat) : Int) ∧ ((i : Nat) : Int) < ((s28l : Nat) : Int)) <|
      Store1 (a29.add ((i : Nat) : Int).toNat) (.int .u64 v) K) w := by
  obtain ⟨ie, g1, g2, g3, g4⟩ := hinf
  have hvl := hO.1
  have hblt := hB.lt
  refine append1 (P := Try.prog) hund g1 g2 g3 rfl g4 hO (v := .int .u64 0) rfl rfl (by omega) fun p' c' w1 f1 o1 hp' z1 => ?_
  obtain ⟨q, rest0, rfl, _, _, _⟩ := o1.get (by omega)
  have hq := hp' q ⟨_, rfl, rfl⟩
  have hbq : b ≠ q := by
    rcases hq with h | h
    · exact fun e => hbp q h e.symm
    · omega
  have hB1 := hB.fr f1 fun h => hbp b h rfl
  rw [NN_mk]
  refine store_intro hB1 ho rfl fun w2 b2 f2 z2 => ?_
  refine drw_intro fun w3 f3 z3 => ?_
  have b3 := b2.fr f3 id
  have o3 := (o1.fr f2 fun x hx => by rw [bl_q.1 hx]; exact Ne.symm hbq).fr f3 fun _ _ => id
  have hu3 : (us.set o (.slice (some ⟨q, 0, none⟩) (l + 1) c'))[o]? = some (.slice (some ⟨q, 0, none⟩) (l + 1) c') := by rw [List.getElem?_set, if_pos rfl, if_pos ho]
  obtain ⟨rest, hq3, hqc, hqm⟩ := o3.full
  have hqc2 : l + 1 + rest.length = c' := by rw [← hqc]; simp; omega
  rw [NN_mk]
  refine load_slice b3 hu3 ?_
  rw [addI_i64 (by omega) (by omega), show ((i : Nat) : Int) + 1 = ((i + 1 : Nat) : Int) by omega, Int.toNat_natCast, Int.toNat_natCast]
  refine ⟨by omega, ?_⟩
  refine load_slice b3 hu3 ⟨by omega, ?_⟩
  rw [sliceAi (by omega), sliceAi (by omega)]
  refine copy_intro (src := vs.drop i) hund (by rw [g1, Option.map_some, g3]) hq3 (by rw [List.length_drop]; omega) (fun j u hj => ?_) (by simp; omega) (fun u hu' => h1 u (List.mem_of_mem_drop hu')) fun w4 b4 f4 z4 => ?_
  · rw [add_mk, hq3.cell]
    rw [List.getElem?_drop] at hj
    have := (List.getElem?_eq_some_iff.1 hj).1
    rw [List.append_assoc, List.getElem?_append_left (by omega)]; exact hj
  have hq4 := b3.fr f4 hbq
  refine chk hq4 hu3 (chk hq4 hu3 ?_)
  refine load_slice hq4 hu3 ?_
  rw [NN_mk, add_mk, Nat.zero_add]
  refine ⟨by omega, ?_⟩
  have e4 : (vs ++ [Value.int .u64 0] ++ rest).take (i + 1) ++ vs.drop i ++ (vs ++ [Value.int .u64 0] ++ rest).drop (i + 1 + (vs.drop i).length) = ((vs ++ [Value.int .u64 0]).take (i + 1) ++ vs.drop i ++ (vs ++ [Value.int .u64 0]).drop (i + 1 + (vs.drop i).length)) ++ rest := by
    rw [List.take_append_of_le_length (by simp; omega), List.drop_append_of_le_length (by simp; omega)]
    simp only [List.append_assoc]
  rw [e4] at b4
  refine store_intro b4 (by simp; omega) rfl fun w5 b5 f5 z5 => ?_
  rw [List.set_append_left _ _ (by simp; omega), shift_in (by omega)] at b5
  refine hk w5 (some ⟨q, 0, none⟩) c' (hq4.fr f5 hbq) (Own.mk' b5 (by simp; omega) (by simp; omega) hqm) (fun x hx => hp' x hx) ?_
  have fq : ∀ x, x = q → (x = b ∨ bl p x) ∨ w.heap.size ≤ x := fun x hx => by
    rw [hx]
    rcases hq with h | h
    · exact .inl (.inr h)
    · exact .inr h
  exact ((((f1.mono fun x h => .inl (.inr h)).trans f2 fun x h => .inl (.inl h)).trans f3 fun _ h => h.elim).trans f4 fun x h => fq x h).trans f5 fun x h => fq x h
theorem ixs_us (P : Sp) : Us (ixs P) := fun u hu => by obtain ⟨x, _, rfl⟩ := List.mem_map.1 hu; rfl
theorem bls_us (P : Sp) : Us (bls P) := fun u hu => by obtain ⟨x, _, rfl⟩ := List.mem_map.1 hu; rfl
/-- blocks.insert. -/
theorem F106_spec {b t o i l c : Nat} {p : Option Addr} {us vs : List Value} (hB : Blk w b t us) (hu : us[o]? = some (.slice p l c)) (hO : Own w 65 p l c vs) (hbp : ∀ x, bl p x → x ≠ b) (hi : i ≤ l) (hl : l < 100000) (h1 : Us vs)
    (hk : ∀ w' p' c', Blk w' b t (us.set o (.slice p' (l + 1) c')) → Own w' 65 p' (l + 1) c' (vs.take i ++ uv 0 :: vs.drop i) → (∀ x, bl p' x → bl p x ∨ w.heap.size ≤ x) → Fr (fun x => x = b ∨ bl p x) w w' → k (.tuple #[]) w') :
    F106 k (some ⟨b, o, none⟩) ((i : Nat) : Int) w := by
  have ho : o < us.length := (List.getElem?_eq_some_iff.1 hu).1
  have hvl := hO.1
  unfold F106
  rw [NN_mk]
  refine load_slice hB hu ?_
  by_cases he : i = l
  · rw [show (((i : Nat) : Int) == ((l : Nat) : Int)) = true by rw [beq_iff_eq]; omega, BIf_true, NN_mk]
    refine load_slice hB hu ?_
    obtain ⟨ie, g1, g2, g3, g4⟩ := inf65
    refine append1 (P := Try.prog) und82 g1 g2 g3 rfl g4 hO (v := .int .u64 0) rfl rfl (by omega) fun p' c' w1 f1 o1 hp' z1 => ?_
    have hB1 := hB.fr f1 fun h => hbp b h rfl
    refine store_intro hB1 ho rfl fun w2 b2 f2 z2 => ?_
    refine hk w2 p' c' b2 ?_ hp' ((f1.mono fun x h => .inl (.inr h)).trans f2 fun x h => .inl (.inl h))
    rw [he, List.take_of_length_le (by omega), List.drop_of_length_le (by omega)]
    refine o1.fr f2 fun x hx e => ?_
    have e : x = b := e
    rcases hp' x hx with h | h
    · exact hbp x h e
    · have := hB.lt; omega
  · rw [show (((i : Nat) : Int) == ((l : Nat) : Int)) = false by rw [beq_eq_false_iff_ne]; omega, BIf_false]
    refine load_slice hB hu ?_
    exact mid_put und82 inf65 hB ho hO hbp (by omega) hl h1 fun w' p' c' a1 a2 a3 a4 => hk w' p' c' a1 a2 a3 a4
theorem back_ib {f : Int → Bool → W} {n : Int} {b : Bool} (h : f n b w) : Back (.tup [(.one (.int .i64)), (.one .bool)]) f (.returned (.tuple #[.int .i64 n, .bool b])) w := ⟨(n, b, ()), rfl, h⟩
theorem ixs_take (P : Sp) (i : Nat) : (ixs P).take i = ixs (P.take i) := List.map_take.symm
theorem ixs_drop (P : Sp) (i : Nat) : (ixs P).drop i = ixs (P.drop i) := List.map_drop.symm
theorem bls_take (P : Sp) (i : Nat) : (bls P).take i = bls (P.take i) := List.map_take.symm
theorem bls_drop (P : Sp) (i : Nat) : (bls P).drop i = bls (P.drop i) := List.map_drop.symm
/-- indices.insert: it is there; or it is put there. -/
theorem F105_spec {b t o c x : Nat} {p : Option Addr} {us : List Value} {P : Sp} (hB : Blk w b t us) (hu : us[o]? = some (.slice p P.length c)) (hO : Own w 24 p P.length c (ixs P)) (hbp : ∀ x, bl p x → x ≠ b) (hl : P.length < 100000) (s : Srt P)
    (hk1 : ∀ w' y, Fr (fun _ => False) w w' → P[plc x P]? = some (x, y) → k (.tuple #[.int .i64 ((plc x P : Nat) : Int), .bool false]) w')
    (hk2 : ∀ w' p' c', (∀ q ∈ P, q.1 ≠ x) → Blk w' b t (us.set o (.slice p' (P.length + 1) c')) → Own w' 24 p' (P.length + 1) c' ((ixs P).take (plc x P) ++ uv x :: (ixs P).drop (plc x P)) → (∀ y, bl p' y → bl p y ∨ w.heap.size ≤ y) → Fr (fun y => y = b ∨ bl p y) w w' →
      k (.tuple #[.int .i64 ((plc x P : Nat) : Int), .bool true]) w') :
    F105 k (some ⟨b, o, none⟩) ((x : Nat) : Int) w := by
  have ho : o < us.length := (List.getElem?_eq_some_iff.1 hu).1
  have hpl : plc x P ≤ P.length := List.length_filter_le _ _
  have hno : ∀ q, P[plc x P]? = some q → q.1 ≠ x → ∀ r ∈ P, r.1 ≠ x := fun q hq hne r hr => by
    rcases cut (i := x) s with ⟨_, _, h⟩ | ⟨y, e, _, hm⟩
    · exact h r hr
    · exfalso
      have := at_plc e
      rw [hq] at this; cases this; exact hne rfl
  unfold F105
  rw [NN_mk]
  refine load_slice hB hu ?_
  refine F101_call (F101_spec hO s hl fun w1 f1 => back_int ?_)
  have hB := hB.fr f1 id
  have hO := hO.fr f1 fun _ _ => id
  have hz1 := f1.size
  rw [NN_mk]
  refine load_slice hB hu ?_
  by_cases he : plc x P = P.length
  · rw [he, show (((P.length : Nat) : Int) == ((P.length : Nat) : Int)) = true from beq_self_eq_true _, BIf_true, NN_mk]
    refine load_slice hB hu ?_
    obtain ⟨ie, g1, g2, g3, g4⟩ := inf24
    refine append1 (P := Try.prog) und83 g1 g2 g3 rfl g4 hO (v := uv x) rfl rfl (by omega) fun p' c' w2 f2 o2 hp' z2 => ?_
    have hB1 := hB.fr f2 fun h => hbp b h rfl
    rw [NN_mk]
    refine store_intro hB1 ho rfl fun w3 b3 f3 z3 => ?_
    rw [he] at hk2
    refine hk2 w3 p' c' (fun r hr e => ?_) b3 ?_ (fun y hy => (hp' y hy).imp id fun h => by omega) (((f1.mono fun _ h => h.elim).trans f2 fun y h => .inl (.inr h)).trans f3 fun y h => .inl (.inl h))
    · have : lo x P = P := by
        unfold plc at he
        exact List.filter_eq_self.2 (List.length_filter_eq_length_iff.1 he)
      rw [← this] at hr
      have := (mem_lo.1 hr).2; omega
    · rw [List.take_of_length_le (by simp), List.drop_of_length_le (by simp)]
      refine o2.fr f3 fun y hy e => ?_
      have e : y = b := e
      rcases hp' y hy with h | h
      · exact hbp y h e
      · have := hB.lt; omega
  · have hlt : plc x P < P.length := by omega
    have hq : P[plc x P]? = some (P[plc x P]'hlt) := List.getElem?_eq_getElem hlt
    generalize P[plc x P]'hlt = q at hq
    rw [show (((plc x P : Nat) : Int) == ((P.length : Nat) : Int)) = false by rw [beq_eq_false_iff_ne]; omega, BIf_false, NN_mk]
    refine load_slice hB hu ?_
    obtain ⟨qb, rest, rfl, hQ, _, _⟩ := hO.get (by omega)
    rw [NN_mk, Req_iff, Int.toNat_natCast, add_mk, Nat.zero_add]
    refine ⟨by omega, load_int (n := ((q.1 : Nat) : Int)) hQ (by rw [List.getElem?_append_left (by simp; omega), ixs_get, hq]; rfl) ?_⟩
    by_cases hqx : q.1 = x
    · rw [show (((q.1 : Nat) : Int) == ((x : Nat) : Int)) = true by rw [beq_iff_eq]; omega, BIf_true]
      obtain ⟨q1, q2⟩ := q
      have hqx : q1 = x := hqx
      subst hqx
      exact hk1 w1 q2 f1 hq
    · rw [show (((q.1 : Nat) : Int) == ((x : Nat) : Int)) = false by rw [beq_eq_false_iff_ne]; omega, BIf_false, NN_mk]
      refine load_slice hB hu ?_
      exact mid_put und83 inf24 hB ho hO hbp hlt hl (ixs_us P) fun w' p' c' a1 a2 a3 a4 => hk2 w' p' c' (hno q hq hqx) a1 a2 (fun y hy => (a3 y hy).imp id fun h => by omega) ((f1.mono fun _ h => h.elim).trans a4 fun y h => .inl h)
end
end Go.Proofs.Ytooejhmelodiaaa.E
