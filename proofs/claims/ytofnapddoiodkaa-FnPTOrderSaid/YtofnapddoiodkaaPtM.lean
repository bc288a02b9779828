/-
  Plus trees in memory: nodes, their parts; comparisons, searches, insertion of an element.
-/
import Derived.Test.YtofnapddoiodkaaPtA
import Derived.Test.YtofnapddoiodkaaFnsA
import Derived.Test.YtofnapddoiodkaaArith
import Derived.Test.YtofnapddoiodkaaLists
namespace Go.Proofs.Ytofnapddoiodkaa.E
open Go
set_option linter.unusedSimpArgs false
set_option linter.unusedVariables false
set_option maxRecDepth 100000
set_option maxHeartbeats 4000000

def oA (o : Option Nat) : Option Addr := o.map fun x => ⟨x, 0, none⟩
@[simp] theorem oA_some (x : Nat) : oA (some x) = some ⟨x, 0, none⟩ := rfl
@[simp] theorem oA_none : oA none = none := rfl
def kv (q : KV) : Value := .iface 54 (.agg #[.int .i64 q.1, .int .i64 q.2])
def kvs (l : List KV) : List Value := l.map kv
@[simp] theorem kvs_length (l : List KV) : (kvs l).length = l.length := List.length_map ..
theorem kvs_get (l : List KV) (i : Nat) : (kvs l)[i]? = l[i]?.map kv := List.getElem?_map
theorem methC (a b : KV) (w : World) : (callMethod (kv a) "Compare" [kv b].toArray).run Try.prog w = .ok (.enter 44 #[.agg #[.int .i64 a.1, .int .i64 a.2], kv b]) w := by kernel_rfl
theorem NextT_enter {P : Program} {s : Sem Next} {r : RTy} {f : Fn W r.leaves} {g : FuncId} {args : Array Value} {w w' : World} (h : s.run P w = .ok (.enter g args) w') (hk : Calls P g args w' (Back r f)) : NextT P s r f w := by
  unfold NextT; rw [h]; exact hk
/-- What a comparison says: how the other one stands to it. -/
def cmpI (a b : Int) : Int := if b < a then -1 else if b > a then 1 else 0
theorem cmpK {a b : KV} {f : Int → W} {w : World} (hk : ∀ w', Fr (fun _ => False) w w' → f (cmpI a.1 b.1) w') : NextT Try.prog (callMethod (kv a) "Compare" [kv b].toArray) (.s (.one (.int .i64))) f w := by
  refine NextT_enter (methC a b w) (F44_calls ?_)
  unfold F44
  refine new_intro fun n w1 e1 b1 f1 z1 => ?_
  refine ⟨(b.1, b.2, ()), rfl, ?_⟩
  refine load_int (i := 0) b1 rfl ?_
  refine BIf_intro (fun h => ?_) fun h => ?_
  · have h := of_decide_eq_true h
    have := hk w1 f1
    unfold cmpI at this
    rw [if_pos h] at this
    exact back_int this
  · have h := of_decide_eq_false h
    refine load_int (i := 0) b1 rfl ?_
    have := hk w1 f1
    unfold cmpI at this
    rw [if_neg h] at this
    refine BIf_intro (fun h' => ?_) fun h' => ?_
    · have h' := of_decide_eq_true h'
      rw [if_pos h'] at this
      exact back_int this
    · have h' := of_decide_eq_false h'
      rw [if_neg h'] at this
      exact back_int this

/-! ## Nodes -/
def ref : (n : Nat) → Tr n → Value
  | 0, l => .iface 68 (.pointer (some ⟨Lf.b l, 0, none⟩))
  | _ + 1, t => .iface 83 (.pointer (some ⟨t.1.b, 0, none⟩))
structure LfM (w : World) (S : Nat) (l : Lf) : Prop where
  a : Blk w l.b 78 [.pointer (oA l.p), .slice (some ⟨l.q, 0, none⟩) l.ks.length S]
  q : Own w 48 (some ⟨l.q, 0, none⟩) l.ks.length S (kvs l.ks)
structure NdM (w : World) (S : Nat) (d : Nd) (vs : List Value) : Prop where
  a : Blk w d.b 88 [.slice (some ⟨d.q, 0, none⟩) d.ks.length S, .slice (some ⟨d.r, 0, none⟩) vs.length (S + 1)]
  q : Own w 48 (some ⟨d.q, 0, none⟩) d.ks.length S (kvs d.ks)
  r : Own w 62 (some ⟨d.r, 0, none⟩) vs.length (S + 1) vs
def Mm (w : World) (S : Nat) : (n : Nat) → Tr n → Prop
  | 0, l => LfM w S l
  | n + 1, t => NdM w S t.1 (t.2.map (ref n)) ∧ ∀ c ∈ t.2, Mm w S n c
theorem bl_q {q b : Nat} : bl (some ⟨q, 0, none⟩) b ↔ b = q := ⟨fun ⟨a, h, e⟩ => by cases h; exact e.symm, fun h => ⟨_, rfl, h.symm⟩⟩
section
variable {w w' : World} {F : Nat → Prop} {S : Nat}
theorem LfM.fr {l : Lf} (h : LfM w S l) (f : Fr F w w') (h1 : ¬ F l.b) (h2 : ¬ F l.q) : LfM w' S l :=
  ⟨h.a.fr f h1, h.q.fr f fun b hb => by rw [bl_q.1 hb]; exact h2⟩
theorem NdM.fr {d : Nd} {vs : List Value} (h : NdM w S d vs) (f : Fr F w w') (h1 : ¬ F d.b) (h2 : ¬ F d.q) (h3 : ¬ F d.r) : NdM w' S d vs :=
  ⟨h.a.fr f h1, h.q.fr f fun b hb => by rw [bl_q.1 hb]; exact h2, h.r.fr f fun b hb => by rw [bl_q.1 hb]; exact h3⟩
theorem Mm.fr (f : Fr F w w') : ∀ {n : Nat} {t : Tr n}, Mm w S n t → (∀ b ∈ bks n t, ¬ F b) → Mm w' S n t
  | 0, l, h, hF => LfM.fr h f (hF _ (by simp [bks])) (hF _ (by simp [bks]))
  | n + 1, t, h, hF => ⟨h.1.fr f (hF _ (by simp [bks])) (hF _ (by simp [bks])) (hF _ (by simp [bks])), fun c hc => Mm.fr f (h.2 c hc) fun b hb => hF b (by
      simp only [bks, List.mem_cons, List.mem_flatMap]
      exact .inr (.inr (.inr ⟨c, hc, hb⟩)))⟩
theorem Mm.fr0 {n : Nat} {t : Tr n} (h : Mm w S n t) (f : Fr (fun _ => False) w w') : Mm w' S n t := h.fr f fun _ _ => id
theorem Own.blk' {e : TypeId} {q l c : Nat} {vs : List Value} (h : Own w e (some ⟨q, 0, none⟩) l c vs) : ∃ us, Blk w q e us := h.blk ⟨_, rfl, rfl⟩
/-- The blocks of a tree are of these types. -/
theorem Mm.blk : ∀ {n : Nat} {t : Tr n}, Mm w S n t → ∀ b ∈ bks n t, ∃ u us, Blk w b u us ∧ u ∈ [78, 88, 48, 62]
  | 0, l, h, b, hb => by
    have h : LfM w S l := h
    simp only [bks, List.mem_cons, List.not_mem_nil, or_false] at hb
    rcases hb with rfl | rfl
    · exact ⟨_, _, h.a, by decide⟩
    · obtain ⟨us, hu⟩ := h.q.blk'
      exact ⟨_, us, hu, by decide⟩
  | n + 1, t, h, b, hb => by
    simp only [bks, List.mem_cons, List.mem_flatMap] at hb
    rcases hb with rfl | rfl | rfl | ⟨c, hc, hb⟩
    · exact ⟨_, _, h.1.a, by decide⟩
    · obtain ⟨us, hu⟩ := h.1.q.blk'
      exact ⟨_, us, hu, by decide⟩
    · obtain ⟨us, hu⟩ := h.1.r.blk'
      exact ⟨_, us, hu, by decide⟩
    · exact Mm.blk (h.2 c hc) b hb
theorem Mm.lt {n : Nat} {t : Tr n} (h : Mm w S n t) {b : Nat} (hb : b ∈ bks n t) : b < w.heap.size := by
  obtain ⟨u, us, h, _⟩ := h.blk b hb
  exact h.lt
theorem Mm.ty {n : Nat} {t : Tr n} (h : Mm w S n t) : Tys (fun b => b ∈ bks n t) w [78, 88, 48, 62] := fun b u us hb hu => by
  obtain ⟨u', us', h', hm⟩ := h.blk b hb
  rw [(hu.unique h').1]; exact hm
end
theorem und76 : Try.prog.underlying 76 = some (.slice 48) := by kernel_rfl
theorem und86 : Try.prog.underlying 86 = some (.slice 62) := by kernel_rfl
theorem inf48 : ∃ i, Try.prog.info? 48 = some i ∧ i.zero = some .nilIface ∧ i.size = 1 ∧ i.bytes ≤ 4096 := ⟨_, rfl, by kernel_rfl, by kernel_rfl, Nat.le_of_ble_eq_true (by kernel_rfl)⟩
theorem inf62 : ∃ i, Try.prog.info? 62 = some i ∧ i.zero = some .nilIface ∧ i.size = 1 ∧ i.bytes ≤ 4096 := ⟨_, rfl, by kernel_rfl, by kernel_rfl, Nat.le_of_ble_eq_true (by kernel_rfl)⟩

/-! ## Searches -/
theorem pos_eq {k : Int} {l : List KV} (s : Srt l) {p : Nat} (hp : p ≤ l.length) (h1 : ∀ j x, l[j]? = some x → j < p → x.1 < k) (h2 : ∀ j x, l[j]? = some x → p ≤ j → ¬ x.1 < k) : pos k l = p := by
  have hc := (pos_cases (q := (k, 0)) s).1
  have hl := pos_le k l
  rcases Nat.lt_trichotomy (pos k l) p with h | h | h
  · have hx : l[pos k l]? = some (l[pos k l]'(by omega)) := List.getElem?_eq_getElem (by omega)
    have := (hc _ _ hx).2 (h1 _ _ hx h)
    exact absurd this (Nat.lt_irrefl _)
  · exact h
  · have hx : l[p]? = some (l[p]'(by omega)) := List.getElem?_eq_getElem (by omega)
    exact absurd ((hc _ _ hx).1 h) (h2 _ _ hx (Nat.le_refl _))
theorem srt_lt {l : List KV} (s : Srt l) {i j : Nat} {x y : KV} (hx : l[i]? = some x) (hy : l[j]? = some y) (h : i < j) : x.1 < y.1 := by
  obtain ⟨h1, rfl⟩ := List.getElem?_eq_some_iff.1 hx
  obtain ⟨h2, rfl⟩ := List.getElem?_eq_some_iff.1 hy
  exact List.pairwise_iff_getElem.1 s i j h1 h2 h
theorem F23_spec {k : Value → W} {w : World} {q c : Nat} {ks : List KV} {x : KV} (hO : Own w 48 (some ⟨q, 0, none⟩) ks.length c (kvs ks)) (s : Srt ks) (hl : ks.length < 4294967296)
    (hk : ∀ w', Fr (fun _ => False) w w' → k (.int .i64 ((pos x.1 ks : Nat) : Int)) w') : F23 k (some ⟨q, 0, none⟩) ks.length c (kv x) w := by
  unfold F23
  refine bind_intro ?_
  rw [subI_i64 (by omega) (by omega)]
  refine F23_L1_rule (I := fun p l c' y lo hi w' => p = some ⟨q, 0, none⟩ ∧ l = ks.length ∧ c' = c ∧ y = kv x ∧ ∃ a b : Nat, lo = ((a : Nat) : Int) ∧ hi = ((b : Nat) : Int) - 1 ∧ a ≤ b ∧ b ≤ ks.length ∧ Fr (fun _ => False) w w' ∧
      (∀ j y, ks[j]? = some y → j < a → y.1 < x.1) ∧ (∀ j y, ks[j]? = some y → b ≤ j → x.1 < y.1))
    (μ := fun p l c' y lo hi w' => (hi + 1 - lo).toNat) ?_
    ⟨rfl, rfl, rfl, rfl, 0, ks.length, rfl, rfl, Nat.zero_le _, Nat.le_refl _, Fr.refl _ _, fun j y _ h => by omega, fun j y h h' => by have := (List.getElem?_eq_some_iff.1 h).1; omega⟩
  rintro _ _ _ _ lo hi w1 ⟨rfl, e1, e2, rfl, a, b, rfl, rfl, hab, hb, f, h1, h2⟩
  unfold F23_L1
  rw [e1]
  by_cases hlt : a < b
  · rw [decide_eq_true (show ((a : Nat) : Int) ≤ ((b : Nat) : Int) - 1 by omega), BIf_true]
    refine ⟨by omega, bind_intro ?_⟩
    rw [show quoI .i64 (addI .i64 (((b : Nat) : Int) - 1) ((a : Nat) : Int)) 2 = (((b - 1 + a) / 2 : Nat) : Int) by
      rw [addI_i64 (by omega) (by omega), quoI_i64 (by omega) (by omega) (by omega)]; omega]
    generalize hm : (b - 1 + a) / 2 = m
    have hm1 : a ≤ m := by omega
    have hm2 : m < b := by omega
    have hx : ks[m]? = some ks[m] := List.getElem?_eq_getElem (by omega)
    have hO1 := hO.fr f fun _ _ => id
    rw [NN_mk, Req_iff, Int.toNat_natCast, add_mk, Nat.zero_add]
    refine ⟨by omega, LoadT_any.2 ⟨kv ks[m], by rw [hO1.cell (by omega), kvs_get, hx]; rfl, ?_⟩⟩
    generalize ks[m] = y at *
    refine cmpK fun w2 f2 => ?_
    have f02 := f.trans f2 fun _ h => h.elim
    unfold cmpI
    rcases Int.lt_trichotomy x.1 y.1 with hc | hc | hc
    · rw [if_pos hc, show ((-1 : Int) == 1) = false from rfl, BIf_false, show ((-1 : Int) == -1) = true from rfl, BIf_true, subI_i64 (by omega) (by omega)]
      refine ⟨⟨rfl, rfl, e2, rfl, a, m, rfl, by trivial, hm1, by omega, f02, h1, fun j z hz hj => ?_⟩, by omega⟩
      by_cases e : j = m
      · subst e; rw [hx] at hz; cases hz; exact hc
      · have := srt_lt s hx hz (by omega); omega
    · rw [if_neg (by omega), if_neg (by omega), show ((0 : Int) == 1) = false from rfl, BIf_false, show ((0 : Int) == -1) = false from rfl, BIf_false, show ((0 : Int) == 0) = true from rfl, BIf_true]
      have := hk w2 f02
      rw [pos_eq s (p := m) (by omega) (fun j z hz hj => by have := srt_lt s hz hx hj; omega) (fun j z hz hj => by
        by_cases e : j = m
        · subst e; rw [hx] at hz; cases hz; omega
        · have := srt_lt s hx hz (by omega); omega)] at this
      exact this
    · rw [if_neg (by omega), if_pos hc, show ((1 : Int) == 1) = true from rfl, BIf_true, addI_i64 (by omega) (by omega)]
      refine ⟨⟨rfl, rfl, e2, rfl, m + 1, b, by omega, rfl, hm2, hb, f02, fun j z hz hj => ?_, h2⟩, by omega⟩
      by_cases e : j = m
      · subst e; rw [hx] at hz; cases hz; exact hc
      · have := srt_lt s hz hx (by omega); omega
  · rw [decide_eq_false (show ¬ ((a : Nat) : Int) ≤ ((b : Nat) : Int) - 1 by omega), BIf_false]
    have hab : a = b := by omega
    subst hab
    have := hk w1 f
    rw [pos_eq s hb h1 (fun j z hz hj => by have := h2 j z hz hj; omega)] at this
    exact this
theorem F28_spec {k : Value → W} {w : World} {q c : Nat} {ks : List KV} {x : KV} (hO : Own w 48 (some ⟨q, 0, none⟩) ks.length c (kvs ks)) (s : Srt ks) (hl : ks.length < 4294967296)
    (hk : ∀ w', Fr (fun _ => False) w w' → k (.int .i64 ((pos x.1 ks : Nat) : Int)) w') : F28 k (some ⟨q, 0, none⟩) ks.length c (kv x) w :=
  F23_call (F23_spec hO s hl fun w' f => back_int (hk w' f))

/-! ## An element put in the middle -/
theorem F24_spec {k : Value → W} {w : World} {b t o q c i : Nat} {us vs : List Value} {v : Value} (hB : Blk w b t us) (hu : us[o]? = some (.slice (some ⟨q, 0, none⟩) vs.length c)) (hO : Own w 48 (some ⟨q, 0, none⟩) vs.length c vs) (hbq : b ≠ q)
    (hl : vs.length < c) (hc : c < 4294967296) (hi : i ≤ vs.length) (h1 : ∀ u ∈ v :: vs, u.oneCell' = true) (hv1 : oneC v = true) (hvc : v.cells = #[v])
    (hk : ∀ w', Fr (fun x => x = b ∨ x = q) w w' → Blk w' b t (us.set o (.slice (some ⟨q, 0, none⟩) (vs.length + 1) c)) → Own w' 48 (some ⟨q, 0, none⟩) (vs.length + 1) c (vs.take i ++ v :: vs.drop i) → k (.tuple #[]) w') :
    F24 k (some ⟨b, o, none⟩) ((i : Nat) : Int) v w := by
  obtain ⟨i48, g1, g2, g3, g4⟩ := inf48
  have ho : o < us.length := (List.getElem?_eq_some_iff.1 hu).1
  unfold F24
  rw [NN_mk]
  refine load_slice hB hu ?_
  by_cases he : i = vs.length
  · rw [show (((i : Nat) : Int) == ((vs.length : Nat) : Int)) = true by rw [beq_iff_eq]; omega, BIf_true, NN_mk]
    refine load_slice hB hu ?_
    refine append_room und76 g1 g2 g3 rfl hO (h1 _ (List.mem_cons_self ..)) hvc hl fun w1 f1 o1 => ?_
    have hB1 := hB.fr f1 hbq
    refine store_intro hB1 ho rfl fun w2 b2 f2 z2 => ?_
    refine hk w2 ((f1.mono fun x h => .inl (.inr h)).trans f2 fun x h => .inl (.inl h)) b2 ?_
    rw [he, List.take_length, List.drop_length]
    exact o1.fr f2 fun x hx => by rw [bl_q.1 hx]; exact Ne.symm hbq
  · rw [show (((i : Nat) : Int) == ((vs.length : Nat) : Int)) = false by rw [beq_eq_false_iff_ne]; omega, BIf_false]
    refine load_slice hB hu ?_
    refine append_room und76 g1 g2 g3 rfl hO (v := .nilIface) rfl rfl hl fun w1 f1 o1 => ?_
    have hB1 := hB.fr f1 hbq
    refine store_intro hB1 ho rfl fun w2 b2 f2 z2 => ?_
    refine drw_intro fun w3 f3 z3 => ?_
    have b3 := b2.fr f3 id
    have o3 := (o1.fr f2 fun x hx => by rw [bl_q.1 hx]; exact Ne.symm hbq).fr f3 fun _ _ => id
    have hu3 : (us.set o (.slice (some ⟨q, 0, none⟩) (vs.length + 1) c))[o]? = some (.slice (some ⟨q, 0, none⟩) (vs.length + 1) c) := by rw [List.getElem?_set, if_pos rfl, if_pos ho]
    rw [NN_mk]
    refine load_slice b3 hu3 ?_
    rw [addI_i64 (by omega) (by omega), show ((i : Nat) : Int) + 1 = ((i + 1 : Nat) : Int) by omega, Int.toNat_natCast, Int.toNat_natCast]
    refine ⟨by omega, ?_⟩
    refine load_slice b3 hu3 ⟨by omega, ?_⟩
    obtain ⟨rest, hq, hqc, hqm⟩ := o3.full
    have e1 : sliceA (some ⟨q, 0, none⟩) (i + 1) c 1 = some ⟨q, i + 1, none⟩ := by
      unfold sliceA
      rw [if_neg (by omega), Option.map_some, add_mk]; simp
    have e2 : sliceA (some ⟨q, 0, none⟩) i c 1 = some ⟨q, i, none⟩ := by
      unfold sliceA
      rw [if_neg (by omega), Option.map_some, add_mk]; simp
    rw [e1, e2]
    have hsz : (Try.prog.info? 48).map (·.size) = some 1 := by rw [g1, Option.map_some, g3]
    refine copy_intro (src := vs.drop i) und76 hsz hq (by rw [List.length_drop]; omega) (fun j u hj => ?_) (by simp at hqc ⊢; omega) (fun u hu' => h1 u (List.mem_cons_of_mem _ (List.mem_of_mem_drop hu'))) fun w4 b4 f4 z4 => ?_
    · rw [add_mk, hq.cell]
      rw [List.getElem?_drop] at hj
      have := (List.getElem?_eq_some_iff.1 hj).1
      rw [List.append_assoc, List.getElem?_append_left (by omega)]; exact hj
    have hq4 := b3.fr f4 hbq
    refine chk hq4 hu3 (chk hq4 hu3 ?_)
    refine load_slice hq4 hu3 ?_
    rw [NN_mk, add_mk, Nat.zero_add]
    refine ⟨by omega, hv1, ?_⟩
    have e4 : (vs ++ [Value.nilIface] ++ rest).take (i + 1) ++ vs.drop i ++ (vs ++ [Value.nilIface] ++ rest).drop (i + 1 + (vs.drop i).length) = ((vs ++ [Value.nilIface]).take (i + 1) ++ vs.drop i ++ (vs ++ [Value.nilIface]).drop (i + 1 + (vs.drop i).length)) ++ rest := by
      rw [List.take_append_of_le_length (by simp; omega), List.drop_append_of_le_length (by simp; omega)]
      simp only [List.append_assoc]
    rw [e4] at b4
    refine store_intro b4 (by simp; omega) hv1 fun w5 b5 f5 z5 => ?_
    rw [List.set_append_left _ _ (by simp; omega), shift_in hi] at b5
    refine hk w5 ?_ (hq4.fr f5 hbq) (Own.mk' b5 (by simp; omega) (by simp at hqc ⊢; omega) hqm)
    exact ((((f1.mono fun x h => .inl (.inr h)).trans f2 fun x h => .inl (.inl h)).trans f3 fun _ h => h.elim).trans f4 fun x h => .inl (.inr h)).trans f5 fun x h => .inl (.inr h)
theorem F27_spec {k : Value → W} {w : World} {b t o q c i : Nat} {us vs : List Value} {v : Value} (hB : Blk w b t us) (hu : us[o]? = some (.slice (some ⟨q, 0, none⟩) vs.length c)) (hO : Own w 62 (some ⟨q, 0, none⟩) vs.length c vs) (hbq : b ≠ q)
    (hl : vs.length < c) (hc : c < 4294967296) (hi : i ≤ vs.length) (h1 : ∀ u ∈ v :: vs, u.oneCell' = true) (hv1 : oneC v = true) (hvc : v.cells = #[v])
    (hk : ∀ w', Fr (fun x => x = b ∨ x = q) w w' → Blk w' b t (us.set o (.slice (some ⟨q, 0, none⟩) (vs.length + 1) c)) → Own w' 62 (some ⟨q, 0, none⟩) (vs.length + 1) c (vs.take i ++ v :: vs.drop i) → k (.tuple #[]) w') :
    F27 k (some ⟨b, o, none⟩) ((i : Nat) : Int) v w := by
  obtain ⟨i62, g1, g2, g3, g4⟩ := inf62
  have ho : o < us.length := (List.getElem?_eq_some_iff.1 hu).1
  unfold F27
  rw [NN_mk]
  refine load_slice hB hu ?_
  by_cases he : i = vs.length
  · rw [show (((i : Nat) : Int) == ((vs.length : Nat) : Int)) = true by rw [beq_iff_eq]; omega, BIf_true, NN_mk]
    refine load_slice hB hu ?_
    refine append_room und86 g1 g2 g3 rfl hO (h1 _ (List.mem_cons_self ..)) hvc hl fun w1 f1 o1 => ?_
    have hB1 := hB.fr f1 hbq
    refine store_intro hB1 ho rfl fun w2 b2 f2 z2 => ?_
    refine hk w2 ((f1.mono fun x h => .inl (.inr h)).trans f2 fun x h => .inl (.inl h)) b2 ?_
    rw [he, List.take_length, List.drop_length]
    exact o1.fr f2 fun x hx => by rw [bl_q.1 hx]; exact Ne.symm hbq
  · rw [show (((i : Nat) : Int) == ((vs.length : Nat) : Int)) = false by rw [beq_eq_false_iff_ne]; omega, BIf_false]
    refine load_slice hB hu ?_
    refine append_room und86 g1 g2 g3 rfl hO (v := .nilIface) rfl rfl hl fun w1 f1 o1 => ?_
    have hB1 := hB.fr f1 hbq
    refine store_intro hB1 ho rfl fun w2 b2 f2 z2 => ?_
    refine drw_intro fun w3 f3 z3 => ?_
    have b3 := b2.fr f3 id
    have o3 := (o1.fr f2 fun x hx => by rw [bl_q.1 hx]; exact Ne.symm hbq).fr f3 fun _ _ => id
    have hu3 : (us.set o (.slice (some ⟨q, 0, none⟩) (vs.length + 1) c))[o]? = some (.slice (some ⟨q, 0, none⟩) (vs.length + 1) c) := by rw [List.getElem?_set, if_pos rfl, if_pos ho]
    rw [NN_mk]
    refine load_slice b3 hu3 ?_
    rw [addI_i64 (by omega) (by omega), show ((i : Nat) : Int) + 1 = ((i + 1 : Nat) : Int) by omega, Int.toNat_natCast, Int.toNat_natCast]
    refine ⟨by omega, ?_⟩
    refine load_slice b3 hu3 ⟨by omega, ?_⟩
    obtain ⟨rest, hq, hqc, hqm⟩ := o3.full
    have e1 : sliceA (some ⟨q, 0, none⟩) (i + 1) c 1 = some ⟨q, i + 1, none⟩ := by
      unfold sliceA
      rw [if_neg (by omega), Option.map_some, add_mk]; simp
    have e2 : sliceA (some ⟨q, 0, none⟩) i c 1 = some ⟨q, i, none⟩ := by
      unfold sliceA
      rw [if_neg (by omega), Option.map_some, add_mk]; simp
    rw [e1, e2]
    have hsz : (Try.prog.info? 62).map (·.size) = some 1 := by rw [g1, Option.map_some, g3]
    refine copy_intro (src := vs.drop i) und86 hsz hq (by rw [List.length_drop]; omega) (fun j u hj => ?_) (by simp at hqc ⊢; omega) (fun u hu' => h1 u (List.mem_cons_of_mem _ (List.mem_of_mem_drop hu'))) fun w4 b4 f4 z4 => ?_
    · rw [add_mk, hq.cell]
      rw [List.getElem?_drop] at hj
      have := (List.getElem?_eq_some_iff.1 hj).1
      rw [List.append_assoc, List.getElem?_append_left (by omega)]; exact hj
    have hq4 := b3.fr f4 hbq
    refine chk hq4 hu3 (chk hq4 hu3 ?_)
    refine load_slice hq4 hu3 ?_
    rw [NN_mk, add_mk, Nat.zero_add]
    refine ⟨by omega, hv1, ?_⟩
    have e4 : (vs ++ [Value.nilIface] ++ rest).take (i + 1) ++ vs.drop i ++ (vs ++ [Value.nilIface] ++ rest).drop (i + 1 + (vs.drop i).length) = ((vs ++ [Value.nilIface]).take (i + 1) ++ vs.drop i ++ (vs ++ [Value.nilIface]).drop (i + 1 + (vs.drop i).length)) ++ rest := by
      rw [List.take_append_of_le_length (by simp; omega), List.drop_append_of_le_length (by simp; omega)]
      simp only [List.append_assoc]
    rw [e4] at b4
    refine store_intro b4 (by simp; omega) hv1 fun w5 b5 f5 z5 => ?_
    rw [List.set_append_left _ _ (by simp; omega), shift_in hi] at b5
    refine hk w5 ?_ (hq4.fr f5 hbq) (Own.mk' b5 (by simp; omega) (by simp at hqc ⊢; omega) hqm)
    exact ((((f1.mono fun x h => .inl (.inr h)).trans f2 fun x h => .inl (.inl h)).trans f3 fun _ h => h.elim).trans f4 fun x h => .inl (.inr h)).trans f5 fun x h => .inl (.inr h)
end Go.Proofs.Ytofnapddoiodkaa.E
