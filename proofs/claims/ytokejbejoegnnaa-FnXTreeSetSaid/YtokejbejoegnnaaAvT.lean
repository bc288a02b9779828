/-
  What is said of a tree; answers compared.
-/
import Derived.Test.YtokejbejoegnnaaAvS
import Derived.Laws.StructEq
namespace Go.Proofs.Ytokejbejoegnnaa.E
open Go Tr
set_option linter.unusedSimpArgs false
set_option linter.unusedVariables false
set_option maxRecDepth 100000
set_option maxHeartbeats 4000000

def svals (vs : List (Option It2)) : List It2 := vs.map val
def hass (vs : List (Option It2)) : List Bool := vs.map Option.isSome
section
variable {K : Option Addr → Nat → Nat → W} {w : World}
theorem qS {x : It2} (hk : ∀ q w', Blk w' q 40 (flat [x]) → Fr (fun _ => False) w w' → K (some ⟨q, 0, none⟩) 1 1 w') : RawT Try.prog (Instr.buildSlice 37 1 [(0, .agg #[.int .i64 x.1, .int .i64 x.2])].toArray) (.s (.one .slice)) K w := by
  obtain ⟨ii, g1, g2, g3, g4⟩ := inf40
  exact build_intro und37 g1 g2 (by omega) (by omega) (fill37 x ii g3) fun w1 f1 b1 z1 => hk _ w1 b1 f1
theorem fill26 (b : Bool) : ∀ i : TypeInfo, i.size = 1 → Instr.fill (fun j => some (j * i.size, i.size)) ((Array.range (1 * i.size)).map ((Value.bool false).cells[· % (Value.bool false).cells.size]!)) [(0, .bool b)] = some [Value.bool b].toArray := by
  intro i h
  rw [h]
  kernel_rfl
theorem qH {b : Bool} (hk : ∀ q w', Blk w' q 4 [.bool b] → Fr (fun _ => False) w w' → K (some ⟨q, 0, none⟩) 1 1 w') : RawT Try.prog (Instr.buildSlice 26 1 [(0, .bool b)].toArray) (.s (.one .slice)) K w := by
  obtain ⟨ii, g1, g2, g3, g4⟩ := inf4
  exact build_intro (z := .bool false) und26 g1 g2 (by omega) (by omega) (fill26 b ii g3) fun w1 f1 b1 z1 => hk _ w1 b1 f1
/-- Blocks of another type stay. -/
def KeepT (ty : Nat) (w w' : World) : Prop := ∀ (t b : Nat) us, t ≠ ty → Blk w b t us → Blk w' b t us
theorem qSa {p : Option Addr} {l c q : Nat} {S : List It2} {x : It2} (h1 : OwnN w 40 2 p l c (flat S)) (h2 : Blk w q 40 (flat [x])) (hb : l < 100000) (hk : ∀ p' c' w', OwnN w' 40 2 p' (l + 1) c' (flat (S ++ [x])) → (∀ b, bl p' b → bl p b ∨ w.heap.size ≤ b) → KeepT 40 w w' → Fr (fun b => bl p b) w w' → K p' (l + 1) c' w') :
    NextT Try.prog (builtin .append #[37, 37] 37 [false, false].toArray [.slice p l c, .slice (some ⟨q, 0, none⟩) 1 1].toArray) (.s (.one .slice)) K w := by
  obtain ⟨ii, g1, g2, g3, g4⟩ := inf40
  refine append_own (P := Try.prog) und37 g1 g2 g3 (by decide) rfl g4 h1 (news := flat [x]) (m := 1) (flat_length _) ?_ (flat_one _) (by omega) fun p' c' w' f' o' hp' => ?_
  · intro j u hj
    rw [add_mk, Nat.zero_add, h2.cell]; exact hj
  · rw [← flat_append] at o'
    refine hk p' c' w' o' hp' (fun t b us ht hu => hu.fr f' fun hb => ?_) f'
    obtain ⟨a, rfl, rfl⟩ := hb
    rcases h1.2 with ⟨h, _⟩ | ⟨q', rest, h, hbk, _⟩
    · cases h
    · cases h; exact ht (hu.unique hbk).1
theorem qHa {p : Option Addr} {l c q : Nat} {S : List Bool} {x : Bool} (h1 : Own w 4 p l c (bools S)) (h2 : Blk w q 4 [.bool x]) (hb : l < 100000) (hk : ∀ p' c' w', Own w' 4 p' (l + 1) c' (bools (S ++ [x])) → (∀ b, bl p' b → bl p b ∨ w.heap.size ≤ b) → KeepT 4 w w' → Fr (fun b => bl p b) w w' → K p' (l + 1) c' w') :
    NextT Try.prog (builtin .append #[26, 26] 26 [false, false].toArray [.slice p l c, .slice (some ⟨q, 0, none⟩) 1 1].toArray) (.s (.one .slice)) K w := by
  obtain ⟨ii, g1, g2, g3, g4⟩ := inf4
  refine append_own (P := Try.prog) und26 g1 g2 g3 (by decide) rfl (by omega) h1.toN (news := [.bool x]) (m := 1) rfl ?_ (by simp; rfl) (by omega) fun p' c' w' f' o' hp' => ?_
  · intro j u hj
    rw [add_mk, Nat.zero_add, h2.cell]; exact hj
  · have o' := Own.ofN o'
    rw [show bools S ++ [Value.bool x] = bools (S ++ [x]) by simp [bools]] at o'
    refine hk p' c' w' o' hp' (fun t b us ht hu => hu.fr f' fun hb => ?_) f'
    obtain ⟨vs, hv⟩ := h1.blk hb
    exact ht (hu.unique hv).1
end
theorem KeepT.ownN {ty : Nat} {w w' : World} (k : KeepT ty w w') {e : TypeId} {sz : Nat} {p : Option Addr} {l c : Nat} {vs : List Value} (h : OwnN w e sz p l c vs) (ht : e ≠ ty) : OwnN w' e sz p l c vs := by
  refine ⟨h.1, h.2.imp id ?_⟩
  rintro ⟨q, rest, rfl, hb, hc, hm⟩
  exact ⟨q, rest, rfl, k e q _ ht hb, hc, hm⟩
theorem KeepT.own {ty : Nat} {w w' : World} (k : KeepT ty w w') {e : TypeId} {p : Option Addr} {l c : Nat} {vs : List Value} (h : Own w e p l c vs) (ht : e ≠ ty) : Own w' e p l c vs := by
  refine ⟨h.1, h.2.imp id ?_⟩
  rintro ⟨q, rest, rfl, hb, hc, hm⟩
  exact ⟨q, rest, rfl, k e q _ ht hb, hc, hm⟩
theorem back_said3 {f : Int → Option Addr → Nat → Nat → Option Addr → Nat → Nat → W} {n : Int} {p q : Option Addr} {l c m d : Nat} {w : World} (h : f n p l c q m d w) :
    Back (.s (.agg [(.int .i64), .slice, .slice])) f (.returned (.agg #[.int .i64 n, .slice p l c, .slice q m d])) w := ⟨(n, (p, l, c), (q, m, d), ()), rfl, h⟩
def SaidI (w5 : World) (n3 n5 num : Nat) (vs : List (Option It2)) (i : Nat) (w' : World) : Prop :=
  ∃ (sp hp : Option Addr) (sc hc : Nat), OwnN w' 40 2 sp i sc (flat (svals (vs.take i))) ∧ Own w' 4 hp i hc (bools (hass (vs.take i))) ∧ (∀ b, bl sp b ∨ bl hp b → w5.heap.size ≤ b) ∧ Blk w' n5 42 [.int .i64 (num : Nat), .slice sp i sc, .slice hp i hc] ∧ Blk w' n3 42 [.int .i64 0, .slice none 0 0, .slice none 0 0] ∧ Fr (fun b => b = n5) w5 w'
/-- avSaid. -/
theorem F27_spec {k : Value → W} {w : World} {ib num : Nat} {t : Tr} {p : Option Addr} {c : Nat} {vs : List (Option It2)} (hT : TM w 0 ib t num) (hV : VIts w p vs) (hb : vs.length < 100000) (hnum : num < 100000)
    (hk : ∀ sp sc hp hc w', OwnN w' 40 2 sp vs.length sc (flat (svals vs)) → Own w' 4 hp vs.length hc (bools (hass vs)) → (∀ b, bl sp b ∨ bl hp b → w.heap.size ≤ b) → Fr (fun _ => False) w w' → k (.agg #[.int .i64 (num : Nat), .slice sp vs.length sc, .slice hp vs.length hc]) w') : F27 k (some ⟨ib, 0, none⟩) p vs.length c w := by
  unfold F27
  refine new_intro fun n3 w1 e1 b1 f1 z1 => ?_
  refine F45_call ?_
  unfold F45
  simp only [NN_mk]
  refine load_int (i := 1) (Blk.fr hT.im f1 id) rfl (back_int ?_)
  refine new_intro fun n5 w2 e2 b2 f2 z2 => ?_
  rw [wrap_i64 (by omega) (by omega)]
  refine store_intro (i := 0) b2 (by simp) rfl fun w3 b3 f3 z3 => ?_
  refine store_intro (i := 1) b3 (by simp) rfl fun w4 b4 f4 z4 => ?_
  refine store_intro (i := 2) b4 (by simp) rfl fun w5 b5 f5 z5 => ?_
  have f25 : Fr (fun b => b = n5) w2 w5 := (f3.trans f4 fun b h => .inl h).trans f5 fun b h => .inl h
  have f02 := f1.trans f2 fun _ h => h.elim
  have f05 : Fr (fun _ => False) w w5 := f02.trans f25 fun b h => .inr (by have : b = n5 := h; omega)
  have b15 := (b1.fr f2 id).fr f25 fun h => by have : n3 = n5 := h; omega
  refine F27_L1_rule (fun a6 ot sp' sl' sc' x9 x10 w' => a6 = ⟨n3, 0, none⟩ ∧ ot = ⟨n5, 0, none⟩ ∧ sp' = p ∧ sl' = vs.length ∧ x9 = (vs.length : Nat) ∧ ∃ i : Nat, x10 = i ∧ i ≤ vs.length ∧ SaidI w5 n3 n5 num vs i w')
    (fun _ _ _ _ _ x9 x10 _ => (x9 - x10).toNat) ?_ ⟨rfl, rfl, rfl, rfl, rfl, 0, rfl, Nat.zero_le _, none, none, 0, 0, OwnN.nil _ _ _, Own.nil _ _, fun b h => (by rcases h with ⟨a, h, _⟩ | ⟨a, h, _⟩ <;> cases h), b5, b15, Fr.refl _ _⟩
  rintro a6 ot sp' sl' sc' x9 x10 w6 ⟨rfl, rfl, e1', e2', rfl, i, rfl, hi, sp, hp, sc, hc, oS, oH, hbl, b6, b36, f6⟩
  obtain rfl := e1'.symm; obtain rfl := e2'.symm
  have f06 : Fr (fun _ => False) w w6 := f05.trans f6 fun b h => .inr (by have : b = n5 := h; omega)
  unfold F27_L1
  by_cases hil : i < vs.length
  rotate_left
  · have : i = vs.length := by omega
    subst this
    rw [decide_eq_false (by omega)]
    rw [List.take_length] at oS oH
    simp only [BIf_false]
    refine load_int (i := 0) b6 rfl (load_slice (i := 1) b6 rfl (load_slice (i := 2) b6 rfl ?_))
    refine store_intro (i := 0) b36 (by simp) rfl fun w7 b7 f7 z7 => ?_
    refine store_intro (i := 1) b7 (by simp) rfl fun w8 b8 f8 z8 => ?_
    refine store_intro (i := 2) b8 (by simp) rfl fun w9 b9 f9 z9 => ?_
    refine load_int (i := 0) b9 rfl (load_slice (i := 1) b9 rfl (load_slice (i := 2) b9 rfl ?_))
    have f69 : Fr (fun b => b = n3) w6 w9 := (f7.trans f8 fun b h => .inl h).trans f9 fun b h => .inl h
    have hz5 := f25.size
    refine hk sp sc hp hc w9 (oS.fr f69 fun b hb h => ?_) (oH.fr f69 fun b hb h => ?_) (fun b hb => ?_) (f06.trans f69 fun b h => .inr (by have : b = n3 := h; omega))
    · have := hbl b (.inl hb); have : b = n3 := h; omega
    · have := hbl b (.inr hb); have : b = n3 := h; omega
    · have := hbl b hb; have := f05.size; omega
  rw [decide_eq_true (by omega)]
  have hget : vs[i]? = some (vs[i]'(by omega)) := List.getElem?_eq_getElem _
  generalize vs[i]'(by omega) = v at hget
  obtain ⟨a, rfl, c1⟩ := hV.fr0 f06 i v hget
  simp only [BIf_true, NN_mk, Int.toNat_natCast]
  refine ⟨by omega, LoadT_any.2 ⟨_, c1, ?_⟩⟩
  refine assertE v ?_
  refine new_intro fun m w7 e7 b7 f7 z7 => ?_
  refine store_intro (i := 0) b7 (by simp) rfl fun w8 b8 f8 z8 => ?_
  refine store_intro (i := 1) b8 (by simp) rfl fun w9 b9 f9 z9 => ?_
  refine drw_intro fun wa fa za => ?_
  have f6a : Fr (fun _ => False) w6 wa := ((f7.trans f8 fun b h => .inr (by have : b = m := h; omega)).trans f9 fun b h => .inr (by have : b = m := h; omega)).trans fa fun _ h => h.elim
  have bm := b9.fr fa id
  have bo := b6.fr f6a id
  have b3a := b36.fr f6a id
  have oSa := oS.fr f6a fun _ _ h => h
  have oHa := oH.fr f6a fun _ _ h => h
  refine load_slice (i := 1) bo rfl (load_int (i := 0) bm rfl (load_int (i := 1) bm rfl (load_slice (i := 2) bo rfl ?_)))
  have hza : w5.heap.size ≤ wa.heap.size := Nat.le_trans f6.size f6a.size
  have hn5 : n5 < w5.heap.size := b5.lt
  -- checks
  have ck : ∀ {w'}, (∀ b us, Blk wa b 42 us → Blk w' b 42 us) → w'.cell? ((⟨n5, 0, none⟩ : Addr).add 2) = some (.slice hp i hc) ∧ w'.cell? ((⟨n5, 0, none⟩ : Addr).add 1) = some (.slice sp i sc) := fun h => by
    have := h n5 _ bo
    exact ⟨by show _ = _; rw [show ((⟨n5, 0, none⟩ : Addr).add 2) = ⟨n5, 2, none⟩ from rfl, this.cell]; rfl, by rw [show ((⟨n5, 0, none⟩ : Addr).add 1) = ⟨n5, 1, none⟩ from rfl, this.cell]; rfl⟩
  have cm : ∀ {w'}, (∀ b us, Blk wa b 95 us → Blk w' b 95 us) → w'.cell? ⟨m, 0, none⟩ = some (.int .i64 (val v).1) ∧ w'.cell? ⟨m, 1, none⟩ = some (.int .i64 (val v).2) := fun h => by
    have := h m _ bm
    exact ⟨by rw [this.cell]; rfl, by rw [this.cell]; rfl⟩
  -- both rows are told to the record
  have fin : ∀ (sp2 hp2 : Option Addr) (sc2 hc2 : Nat) (wb : World) (K : W), OwnN wb 40 2 sp2 (i + 1) sc2 (flat (svals (vs.take i) ++ [val v])) → Own wb 4 hp2 (i + 1) hc2 (bools (hass (vs.take i) ++ [v.isSome])) → (∀ b, bl sp2 b ∨ bl hp2 b → w5.heap.size ≤ b) → Blk wb n5 42 [.int .i64 (num : Nat), .slice sp i sc, .slice hp i hc] → Blk wb n3 42 [.int .i64 0, .slice none 0 0, .slice none 0 0] → Fr (fun b => bl sp b ∨ bl hp b) wa wb →
      (∀ wd, SaidI w5 n3 n5 num vs (i + 1) wd → K wd) → (Store1 ((⟨n5, 0, none⟩ : Addr).add 1) (.slice sp2 (i + 1) sc2) <| Store1 ((⟨n5, 0, none⟩ : Addr).add 2) (.slice hp2 (i + 1) hc2) K) wb := by
    intro sp2 hp2 sc2 hc2 wb K g1 g2 g3 g4 g5 g6 hK
    refine store_intro (i := 1) g4 (by simp) rfl fun wc bc fc zc => ?_
    refine store_intro (i := 2) bc (by simp) rfl fun wd bd fd zd => ?_
    have fbd : Fr (fun b => b = n5) wb wd := fc.trans fd fun b h => .inl h
    refine hK wd ⟨sp2, hp2, sc2, hc2, ?_, ?_, g3, bd, g5.fr fbd fun h => by have : n3 = n5 := h; omega, ?_⟩
    · rw [take_snoc hget]
      have : svals (vs.take i ++ [v]) = svals (vs.take i) ++ [val v] := by simp [svals]
      rw [this]
      exact g1.fr fbd fun b hb h => by have := g3 b (.inl hb); have : b = n5 := h; omega
    · rw [take_snoc hget]
      have : hass (vs.take i ++ [v]) = hass (vs.take i) ++ [v.isSome] := by simp [hass]
      rw [this]
      exact g2.fr fbd fun b hb h => by have := g3 b (.inr hb); have : b = n5 := h; omega
    · exact ((f6.trans f6a fun _ h => h.elim).trans g6 fun b h => .inr (hbl b h)).trans fbd fun b h => .inl h
  have K0 : ∀ {wx wy : World} (f : Fr (fun _ => False) wx wy) (t b : Nat) us, Blk wx b t us → Blk wy b t us := fun f t b us h => h.fr f id
  have fresh : ∀ {sp2 : Option Addr} {wx : World}, (∀ b, bl sp2 b → bl sp b ∨ wx.heap.size ≤ b) → w5.heap.size ≤ wx.heap.size → ∀ b, bl sp2 b → w5.heap.size ≤ b := fun h hz b hb => (h b hb).elim (fun h => hbl b (.inl h)) fun h => by omega
  have freshH : ∀ {hp2 : Option Addr} {wx : World}, (∀ b, bl hp2 b → bl hp b ∨ wx.heap.size ≤ b) → w5.heap.size ≤ wx.heap.size → ∀ b, bl hp2 b → w5.heap.size ≤ b := fun h hz b hb => (h b hb).elim (fun h => hbl b (.inr h)) fun h => by omega
  refine ⟨?_, ?_⟩
  · refine qS fun q1 wb bb fb => ?_
    have kb := fun t b us => K0 fb t b us
    refine ⟨(ck fun b us => kb 42 b us).1, (ck fun b us => kb 42 b us).2, ?_⟩
    refine ⟨?_, ?_⟩
    · refine qSa (oSa.fr fb fun _ _ h => h) bb (by omega) fun sp2 sc2 wc oc hpc kc fc => ?_
      have k42 := fun b us h => kc 42 b us (by decide) (kb 42 b us h)
      have k95 := fun b us h => kc 95 b us (by decide) (kb 95 b us h)
      refine ⟨(ck k42).1, (cm k95).1, (cm k95).2, ?_⟩
      refine qH fun q2 wd bd fd => ?_
      have k42d := fun b us h => K0 fd 42 b us (k42 b us h)
      have k95d := fun b us h => K0 fd 95 b us (k95 b us h)
      refine ⟨(ck k42d).1, (cm k95d).1, (cm k95d).2, (ck k42d).2, ?_⟩
      have oHd := (kc.own (oHa.fr fb fun _ _ h => h) (by decide)).fr fd fun _ _ h => h
      refine qHa oHd bd (by omega) fun hp2 hc2 we oe hpe ke fe => ?_
      have k42e := fun b us h => ke 42 b us (by decide) (k42d b us h)
      have k95e := fun b us h => ke 95 b us (by decide) (k95d b us h)
      refine ⟨(cm k95e).1, (cm k95e).2, (ck k42e).2, ?_⟩
      refine fin sp2 hp2 sc2 hc2 we _ (ke.ownN (oc.fr fd fun _ _ h => h) (by decide)) oe (fun b hb => ?_) (k42e n5 _ bo) (k42e n3 _ b3a) ?_ fun wz hz => ?_
      · rcases hb with hb | hb
        · exact fresh hpc (Nat.le_trans hza fb.size) b hb
        · exact freshH hpe (by have := fb.size; have := fc.size; have := fd.size; omega) b hb
      · exact (((fb.mono fun _ h => h.elim).trans fc fun b h => .inl (.inl h)).trans fd fun _ h => h.elim).trans fe fun b h => .inl (.inr h)
      · rw [add_one (by omega)]; exact ⟨⟨(by trivial), (by trivial), (by trivial), (by trivial), (by trivial), i + 1, rfl, by omega, hz⟩, by omega⟩
    · refine qH fun q2 wc bc fc => ?_
      have k42 := fun b us h => K0 fc 42 b us (kb 42 b us h)
      have k95 := fun b us h => K0 fc 95 b us (kb 95 b us h)
      refine ⟨(ck k42).1, (cm k95).1, (cm k95).2, (ck k42).2, ?_⟩
      refine qSa ((oSa.fr fb fun _ _ h => h).fr fc fun _ _ h => h) (bb.fr fc id) (by omega) fun sp2 sc2 wd od hpd kd fd => ?_
      have k42d := fun b us h => kd 42 b us (by decide) (k42 b us h)
      have k95d := fun b us h => kd 95 b us (by decide) (k95 b us h)
      refine ⟨(ck k42d).1, (cm k95d).1, (cm k95d).2, ?_⟩
      have oHd := kd.own ((oHa.fr fb fun _ _ h => h).fr fc fun _ _ h => h) (by decide)
      refine qHa oHd (kd 4 q2 _ (by decide) bc) (by omega) fun hp2 hc2 we oe hpe ke fe => ?_
      have k42e := fun b us h => ke 42 b us (by decide) (k42d b us h)
      have k95e := fun b us h => ke 95 b us (by decide) (k95d b us h)
      refine ⟨(cm k95e).1, (cm k95e).2, (ck k42e).2, ?_⟩
      refine fin sp2 hp2 sc2 hc2 we _ (ke.ownN od (by decide)) oe (fun b hb => ?_) (k42e n5 _ bo) (k42e n3 _ b3a) ?_ fun wz hz => ?_
      · rcases hb with hb | hb
        · exact fresh hpd (by have := fb.size; have := fc.size; omega) b hb
        · exact freshH hpe (by have := fb.size; have := fc.size; have := fd.size; omega) b hb
      · exact (((fb.mono fun _ h => h.elim).trans fc fun _ h => h.elim).trans fd fun b h => .inl (.inl h)).trans fe fun b h => .inl (.inr h)
      · rw [add_one (by omega)]; exact ⟨⟨(by trivial), (by trivial), (by trivial), (by trivial), (by trivial), i + 1, rfl, by omega, hz⟩, by omega⟩
  · refine qH fun q2 wb bb fb => ?_
    have kb := fun t b us => K0 fb t b us
    refine ⟨(ck fun b us => kb 42 b us).1, (cm fun b us => kb 95 b us).1, (cm fun b us => kb 95 b us).2, (ck fun b us => kb 42 b us).2, ?_⟩
    refine qS fun q1 wc bc fc => ?_
    have k42 := fun b us h => K0 fc 42 b us (kb 42 b us h)
    have k95 := fun b us h => K0 fc 95 b us (kb 95 b us h)
    refine ⟨(ck k42).1, (ck k42).2, ?_⟩
    refine qSa ((oSa.fr fb fun _ _ h => h).fr fc fun _ _ h => h) bc (by omega) fun sp2 sc2 wd od hpd kd fd => ?_
    have k42d := fun b us h => kd 42 b us (by decide) (k42 b us h)
    have k95d := fun b us h => kd 95 b us (by decide) (k95 b us h)
    refine ⟨(ck k42d).1, (cm k95d).1, (cm k95d).2, ?_⟩
    have oHd := kd.own ((oHa.fr fb fun _ _ h => h).fr fc fun _ _ h => h) (by decide)
    refine qHa oHd (kd 4 q2 _ (by decide) (bb.fr fc id)) (by omega) fun hp2 hc2 we oe hpe ke fe => ?_
    have k42e := fun b us h => ke 42 b us (by decide) (k42d b us h)
    have k95e := fun b us h => ke 95 b us (by decide) (k95d b us h)
    refine ⟨(cm k95e).1, (cm k95e).2, (ck k42e).2, ?_⟩
    refine fin sp2 hp2 sc2 hc2 we _ (ke.ownN od (by decide)) oe (fun b hb => ?_) (k42e n5 _ bo) (k42e n3 _ b3a) ?_ fun wz hz => ?_
    · rcases hb with hb | hb
      · exact fresh hpd (by have := fb.size; have := fc.size; omega) b hb
      · exact freshH hpe (by have := fb.size; have := fc.size; have := fd.size; omega) b hb
    · exact (((fb.mono fun _ h => h.elim).trans fc fun _ h => h.elim).trans fd fun b h => .inl (.inl h)).trans fe fun b h => .inl (.inr h)
    · rw [add_one (by omega)]; exact ⟨⟨(by trivial), (by trivial), (by trivial), (by trivial), (by trivial), i + 1, rfl, by omega, hz⟩, by omega⟩
end Go.Proofs.Ytokejbejoegnnaa.E
