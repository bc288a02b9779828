/-
  The run over steps; what a set says behind the last one.
-/
import Derived.Test.YtokejbejoegnnaaST2
namespace Go.Proofs.Ytokejbejoegnnaa.E
open Go Go.Sort
set_option linter.unusedSimpArgs false
set_option linter.unusedVariables false
set_option maxRecDepth 100000
set_option maxHeartbeats 4000000

section
variable {k : Value → W} {again : Option Addr → Option Addr → Nat → Nat → Option Addr → Nat → Nat → Int → Int → W}
theorem J1_spec {w : World} {sb mb fl fc base : Nat} {fp : Option Addr} {S items : List Int} {n14 : Nat} {ol oc : Nat} {outp : Option Addr} {cells : List Value} {opn : Int} {ip : Option Addr} {ic : Nat} {sp : Option Addr} {sl sc : Nat} {x y : Int}
    (hS : SetAt w sb mb S fp fl fc) (hF : FlOk w base fp fl fc S) (hlen : S.length < 10000) (hil : items.length < 10000) (b14 : Blk w n14 32 [.int .i64 opn, .slice ip items.length ic]) (hI : Ints w ip items)
    (hsb : sb < base) (hmb : mb < base) (h14 : base ≤ n14) (hb : base ≤ w.heap.size) (hipb : ∀ b, bl ip b → b ≠ sb ∧ b ≠ mb ∧ b < w.heap.size) (ho : OwnN w 28 4 outp ol oc cells) (hob : ∀ b, bl outp b → base ≤ b) (hol : ol < 10000)
    (hk : ∀ r fp' fl' fc' p' c' w', ROk w' base r S items → SetAt w' sb mb S fp' fl' fc' → FlOk w' base fp' fl' fc' S → OwnN w' 28 4 p' (ol + 1) c' (cells ++ rflat [r]) → (∀ b, bl p' b → base ≤ b) → Fr (fun b => b = sb ∨ bl outp b) w w' → again (some ⟨sb, 0, none⟩) p' (ol + 1) c' sp sl sc x (addI .i64 y 1) w') :
    F19_J1 k again (some ⟨sb, 0, none⟩) outp ol oc ⟨n14, 0, none⟩ sp sl sc x y w := by
  unfold F19_J1
  refine drw_intro fun w0 f0 z0 => ?_
  have b140 := b14.fr f0 id
  refine load_slice (i := 1) b140 rfl ?_
  have chk : ∀ {w'}, Fr (fun _ => False) w0 w' → w'.cell? ((⟨n14, 0, none⟩ : Addr).add 1) = some (.slice ip items.length ic) := fun f => by rw [show ((⟨n14, 0, none⟩ : Addr).add 1) = ⟨n14, 1, none⟩ from rfl, (b140.fr f id).cell]; rfl
  have h14l := b140.lt
  -- what lies ready behind whichever order
  have fin : ∀ (r : Bool) (n : Nat) (w' : World), w0.heap.size ≤ n → Fr (fun b => b = n) w0 w' → Blk w' n 28 [.int .i64 (S.length : Nat), .slice none 0 0, .bool r, .slice none 0 0] → F19_J2 k again (some ⟨sb, 0, none⟩) outp ol oc ⟨n14, 0, none⟩ ⟨n, 0, none⟩ sp sl sc x y w' := by
    intro r n w' hn f b28
    have g : Fr (fun _ => False) w0 w' := f.mono fun b e => .inr (by have : b = n := e; omega)
    have g0 : Fr (fun _ => False) w w' := f0.trans g fun _ h => h.elim
    refine J2_spec (hS.fr0 g0) (hF.fr g0 fun _ h => h.elim) hlen hil (b14.fr g0 id) (hI.fr0 g0) b28 hsb hmb h14 (by omega) (by omega) (by have := g0.size; omega) (fun b h => ⟨(hipb b h).1, (hipb b h).2.1, by have := (hipb b h).2.2; omega⟩) (ho.fr g0 fun _ _ h => h) (fun b h => ⟨hob b h, by have := ho.lt h; omega⟩) hol fun r fp' fl' fc' p' c' w2 a1 a2 a3 a4 a5 a6 => ?_
    refine hk r fp' fl' fc' p' c' w2 a1 a2 a3 a4 a5 ((g0.mono (S' := fun b => b = sb ∨ bl outp b) fun _ h => h.elim).trans a6 fun b h => ?_)
    rcases h with h | h | h
    · exact .inl (.inl h)
    · exact .inr (by omega)
    · exact .inl (.inr h)
  have stores : ∀ (r : Bool) (n : Nat) (w' : World) (K : W), w0.heap.size ≤ n → Fr (fun b => b = n) w0 w' → Blk w' n 28 [.int .i64 0, .slice none 0 0, .bool false, .slice none 0 0] → (∀ w2, Fr (fun b => b = n) w0 w2 → Blk w2 n 28 [.int .i64 (S.length : Nat), .slice none 0 0, .bool r, .slice none 0 0] → K w2) →
      (Store1 ⟨n, 0, none⟩ (.int .i64 (S.length : Nat)) <| Store1 ⟨n, 1, none⟩ (.slice none 0 0) <| Store1 ⟨n, 2, none⟩ (.bool r) <| Store1 ⟨n, 3, none⟩ (.slice none 0 0) K) w' := by
    intro r n w' K hn f b hK
    refine store_intro b (by simp) rfl fun w1 b1 f1 _ => ?_
    refine store_intro b1 (by simp) rfl fun w2 b2 f2 _ => ?_
    refine store_intro b2 (by simp) rfl fun w3 b3 f3 _ => ?_
    refine store_intro b3 (by simp) rfl fun w4 b4 f4 _ => ?_
    exact hK w4 ((((f.trans f1 fun _ h => .inl h).trans f2 fun _ h => .inl h).trans f3 fun _ h => .inl h).trans f4 fun _ h => .inl h) b4
  have s0 := hS.fr0 f0
  have i0 := hI.fr0 f0
  refine ⟨?_, ?_⟩
  · refine F35_call (F35_spec s0 (back_int ?_))
    refine ⟨chk (Fr.refl _ _), ?_, ?_⟩
    · refine F31_call (F31_spec i0 rfl (by omega) fun q c' w1 o1 hq f1 => back_slice ?_)
      refine ⟨?_, ?_⟩
      · refine F36_call (F36_spec (s0.fr0 f1) o1.anys rfl (by omega) fun r w2 f2 => back_bool ?_)
        have f02 := f1.trans f2 fun _ h => h.elim
        refine ⟨chk f02, ?_⟩
        refine new_intro fun n w3 e3 b3 f3 z3 => ?_
        have f03 := f02.trans f3 fun _ h => h.elim
        refine ⟨chk f03, ?_⟩
        refine stores r n w3 _ (by have := f02.size; omega) (f03.mono fun _ h => h.elim) b3 fun w4 f4 b4 => ?_
        exact fin r n w4 (by have := f02.size; omega) f4 b4
      · refine new_intro fun n w2 e2 b2 f2 z2 => ?_
        have f02 := f1.trans f2 fun _ h => h.elim
        refine ⟨chk f02, ?_⟩
        refine F36_call (F36_spec (s0.fr0 f02) (o1.fr f2 fun _ _ h => h).anys rfl (by omega) fun r w3 f3 => back_bool ?_)
        have f03 := f02.trans f3 fun _ h => h.elim
        refine ⟨chk f03, ?_⟩
        refine stores r n w3 _ (by have := f1.size; omega) (f03.mono fun _ h => h.elim) (b2.fr f3 id) fun w4 f4 b4 => ?_
        exact fin r n w4 (by have := f1.size; omega) f4 b4
    · refine new_intro fun n w1 e1 b1 f1 z1 => ?_
      refine ⟨chk f1, ?_⟩
      refine F31_call (F31_spec (i0.fr0 f1) rfl (by omega) fun q c' w2 o2 hq f2 => back_slice ?_)
      have f02 := f1.trans f2 fun _ h => h.elim
      refine F36_call (F36_spec (s0.fr0 f02) o2.anys rfl (by omega) fun r w3 f3 => back_bool ?_)
      have f03 := f02.trans f3 fun _ h => h.elim
      refine ⟨chk f03, ?_⟩
      refine stores r n w3 _ (by omega) (f03.mono fun _ h => h.elim) ((b1.fr f2 id).fr f3 id) fun w4 f4 b4 => ?_
      exact fin r n w4 (by omega) f4 b4
  · refine new_intro fun n w1 e1 b1 f1 z1 => ?_
    refine ⟨chk f1, ?_⟩
    refine F35_call (F35_spec (s0.fr0 f1) (back_int ?_))
    refine ⟨chk f1, ?_⟩
    refine F31_call (F31_spec (i0.fr0 f1) rfl (by omega) fun q c' w2 o2 hq f2 => back_slice ?_)
    have f02 := f1.trans f2 fun _ h => h.elim
    refine F36_call (F36_spec (s0.fr0 f02) o2.anys rfl (by omega) fun r w3 f3 => back_bool ?_)
    have f03 := f02.trans f3 fun _ h => h.elim
    refine ⟨chk f03, ?_⟩
    refine stores r n w3 _ (by omega) (f03.mono fun _ h => h.elim) ((b1.fr f2 id).fr f3 id) fun w4 f4 b4 => ?_
    exact fin r n w4 (by omega) f4 b4
end
/-- The steps that are meant here: add, remove, nothing. -/
def opsOk (st : List (Int × List Int)) : Prop := ∀ q ∈ st, (q.1 = 1 ∨ q.1 = 2 ∨ q.1 = 4) ∧ q.2.length ≤ 100
theorem lastK_len : ∀ (st : List (Int × List Int)) (S : List Int) , opsOk st → (lastK S st).length ≤ S.length + 100 * st.length
  | [], S, _ => by simp [lastK]
  | q :: l, S, h => by
    have h1 := stepK_len S q.1 q.2
    have h2 := (h q (List.mem_cons_self ..)).2
    have := lastK_len l (stepK S q.1 q.2) fun x hx => h x (List.mem_cons_of_mem _ hx)
    simp only [lastK, List.length_cons]; omega
/-- The records of a run, each of its step. -/
def Recs (w : World) (base : Nat) (rs : List Rec) (Ss : List (List Int)) (st : List (Int × List Int)) : Prop :=
  rs.length = st.length ∧ ∀ (i : Nat) r S q, rs[i]? = some r → Ss[i]? = some S → st[i]? = some q → ROk w base r S q.2
theorem F19_spec {k : Value → W} {w : World} {p1 p2 : Option Addr} {l1 c1 l2 c2 : Nat} {xs : List Int} {st : List (Int × List Int)} (hX : Ints w p1 xs) (hl1 : l1 = xs.length) (hxl : xs.length ≤ 100) (hT : Steps w p2 st) (hl2 : l2 = st.length) (hst : st.length ≤ 10) (hops : opsOk st)
    (hk : ∀ rs p c w' base, w.heap.size ≤ base → Recs w' base rs (runK (addAll [] xs) st) st → OwnN w' 28 4 p l2 c (rflat rs) → Fr (fun _ => False) w w' → k (.slice p l2 c) w') : F19 k p1 l1 c1 p2 l2 c2 w := by
  subst hl1; subst hl2
  unfold F19
  refine F31_call (F31_spec hX rfl (by omega) fun q3 c3 w1 o1 hq1 f1 => back_slice ?_)
  refine F30_call (F30_spec o1.anys rfl (by omega) fun sb mb w2 h1 h2 s2 f2 => back_ptr ?_)
  have f02 := f1.trans f2 fun _ h => h.elim
  have hsb := s2.head.lt
  have hmb := s2.items.lt
  have hs1 := f1.size
  have hs2 := f2.size
  have hadd := addAll_len xs []
  have hw2 : w.heap.size ≤ w2.heap.size := by omega
  refine F19_L1_rule (fun xp op ol oc sp sl sc x8 x9 w' => xp = some ⟨sb, 0, none⟩ ∧ sp = p2 ∧ sl = st.length ∧ x8 = (st.length : Nat) ∧ ∃ (i : Nat) (rs : List Rec) (fp : Option Addr) (fl fc : Nat), x9 = i ∧ i ≤ st.length ∧ ol = i ∧ SetAt w' sb mb (lastK (addAll [] xs) (st.take i)) fp fl fc ∧ FlOk w' w2.heap.size fp fl fc (lastK (addAll [] xs) (st.take i)) ∧
      Recs w' w2.heap.size rs (runK (addAll [] xs) (st.take i)) (st.take i) ∧ OwnN w' 28 4 op i oc (rflat rs) ∧ (∀ b, bl op b → w2.heap.size ≤ b) ∧ Fr (fun _ => False) w w' ∧ w2.heap.size ≤ w'.heap.size)
    (fun _ _ _ _ _ _ _ x8 x9 _ => (x8 - x9).toNat) ?_ ⟨rfl, rfl, rfl, rfl, 0, [], none, 0, 0, rfl, Nat.zero_le _, rfl, s2, .inl ⟨rfl, rfl, rfl⟩, ⟨rfl, fun i r S q h => by cases h⟩, OwnN.nil _ _ _, fun b ⟨a, h, _⟩ => (by cases h), f02, Nat.le_refl _⟩
  rintro xp op ol oc sp sl sc x8 x9 w3 ⟨e1, e2, e3, rfl, i, rs, fp, fl, fc, rfl, hi, e5, s3, F3, R3, o3, hob, f3, hz3⟩
  obtain rfl := e1.symm; obtain rfl := e2.symm; obtain rfl := e3.symm; obtain rfl := e5.symm
  unfold F19_L1
  by_cases hil : i < st.length
  rotate_left
  · have : i = st.length := by omega
    subst this
    rw [decide_eq_false (by omega)]
    rw [List.take_length] at R3
    simp only [BIf_false]
    exact hk rs op oc w3 w2.heap.size hw2 R3 o3 f3
  rw [decide_eq_true (by omega)]
  have hget : st[i]? = some (st[i]'(by omega)) := List.getElem?_eq_getElem _
  have hmem : st[i]'(by omega) ∈ st := List.getElem_mem _
  generalize st[i]'(by omega) = q at hget hmem
  obtain ⟨hop, hql⟩ := hops q hmem
  obtain ⟨a, ip, ic, rfl, hc1, hc2, hI, _⟩ := hT.fr0 f3 i q hget
  obtain ⟨a0, ip0, ic0, ha0, _, hc20, hI0, hipl⟩ := hT i q hget
  cases ha0
  have hic : ip0 = ip ∧ ic0 = ic := by
    have h4 := hc20
    rw [← f3.cell (cell_lt hc20) id, hc2] at h4
    simp only [Option.some.injEq, Value.slice.injEq] at h4
    exact ⟨h4.1.symm, h4.2.2.symm⟩
  obtain ⟨rfl, rfl⟩ := hic
  simp only [BIf_true, NN_mk, Int.toNat_natCast]
  refine ⟨by omega, LoadT_int.2 ⟨_, hc1, LoadT_slice.2 ⟨_, _, _, hc2, ?_⟩⟩⟩
  refine new_intro fun n14 w4 e4 b4 f4 z4 => ?_
  refine store_intro b4 (by simp) rfl fun w5 b5 f5 z5 => ?_
  refine store_intro b5 (by simp) rfl fun w6 b6 f6 z6 => ?_
  refine load_int (i := 0) b6 rfl ?_
  have f36 : Fr (fun _ => False) w3 w6 := (f4.trans f5 fun b e => .inr (by have : b = n14 := e; omega)).trans f6 fun b e => .inr (by have : b = n14 := e; omega)
  have s6 := s3.fr0 f36
  have F6 := F3.fr f36 fun _ h => h.elim
  have o6 := o3.fr f36 fun _ _ h => h
  have f06 := f3.trans f36 fun _ h => h.elim
  have hlen := lastK_len (st.take i) (addAll [] xs) fun q hq => hops q (List.mem_of_mem_take hq)
  have htl : (st.take i).length = i := by simp; omega
  rw [htl] at hlen
  have hlen2 : (stepK (lastK (addAll [] xs) (st.take i)) q.1 q.2).length ≤ 3000 := by
    have := stepK_len (lastK (addAll [] xs) (st.take i)) q.1 q.2
    simp only [List.length_nil] at hadd; omega
  have tout : ∀ {w'} {cs : List Value} {c}, OwnN w' 28 4 op i c cs → ∀ b, bl op b → ∃ us, Blk w' b 28 us := fun h b hb => by
    obtain ⟨a, rfl, rfl⟩ := hb
    rcases h.2 with ⟨h, _⟩ | ⟨q, rest, h, hb, _⟩
    · cases h
    · cases h; exact ⟨_, hb⟩
  -- what follows the step
  have rest : ∀ (fp' : Option Addr) (fl' fc' : Nat) (w7 : World), SetAt w7 sb mb (stepK (lastK (addAll [] xs) (st.take i)) q.1 q.2) fp' fl' fc' → FlOk w7 w2.heap.size fp' fl' fc' (stepK (lastK (addAll [] xs) (st.take i)) q.1 q.2) → Fr (fun b => b = sb ∨ b = mb) w6 w7 →
      F19_J1 k (fun xp' op' ol' oc' sp' sl' sc' x8' x9' w' => (xp' = some ⟨sb, 0, none⟩ ∧ sp' = some a ∧ sl' = st.length ∧ x8' = (st.length : Nat) ∧ ∃ (i : Nat) (rs : List Rec) (fp : Option Addr) (fl fc : Nat), x9' = i ∧ i ≤ st.length ∧ ol' = i ∧ SetAt w' sb mb (lastK (addAll [] xs) (st.take i)) fp fl fc ∧ FlOk w' w2.heap.size fp fl fc (lastK (addAll [] xs) (st.take i)) ∧
      Recs w' w2.heap.size rs (runK (addAll [] xs) (st.take i)) (st.take i) ∧ OwnN w' 28 4 op' i oc' (rflat rs) ∧ (∀ b, bl op' b → w2.heap.size ≤ b) ∧ Fr (fun _ => False) w w' ∧ w2.heap.size ≤ w'.heap.size) ∧ (x8' - x9').toNat < ((st.length : Nat) - (i : Nat) : Int).toNat) (some ⟨sb, 0, none⟩) op i oc ⟨n14, 0, none⟩ (some a) st.length sc (st.length : Nat) (i : Nat) w7 := by
    intro fp' fl' fc' w7 s7 F7 f7
    have f07 : Fr (fun _ => False) w w7 := f06.trans f7 fun b h => .inr (by rcases h with h | h <;> omega)
    have o7 := o6.fr f7 fun b hb h => by have := hob b hb; rcases h with h | h <;> omega
    have hz6 := f36.size
    have hz7 := f7.size
    have b7 := b6.fr f7 (fun h => by rcases h with h | h <;> omega)
    refine J1_spec (base := w2.heap.size) (S := stepK (lastK (addAll [] xs) (st.take i)) q.1 q.2) (items := q.2) (cells := rflat rs) s7 F7 (by omega) (by omega) b7 (hI0.fr0 f07) hsb hmb (by omega) (by omega) (fun b hb => by have := hipl b hb; have := f07.size; exact ⟨by omega, by omega, by omega⟩) o7 hob (by omega) fun r fp2 fl2 fc2 p2 c2 w8 r8 s8 F8 o8 hp8 f8 => ?_
    rw [add_one (by omega)]
    have hR8 : ∀ r S q, ROk w3 w2.heap.size r S q → ROk w8 w2.heap.size r S q := fun r S q h => ((h.fr0 f36).fr f7 fun b hb => .inl (by rcases hb with h | h <;> omega)).fr f8 fun b hb => by
      rcases hb with h | h
      · exact .inl (by omega)
      · obtain ⟨us, hu⟩ := tout o7 b h; exact .inr ⟨28, us, hu, by decide, by decide⟩
    refine ⟨⟨(by trivial), (by trivial), (by trivial), (by trivial), i + 1, rs ++ [r], fp2, fl2, fc2, rfl, by omega, (by trivial), ?_, ?_, ?_, ?_, hp8, f07.trans f8 fun b h => .inr (h.elim (fun h => by omega) fun h => Nat.le_trans hw2 (hob b h)), by have := f8.size; omega⟩, by omega⟩
    · rw [take_snoc hget, lastK_snoc]; exact s8
    · rw [take_snoc hget, lastK_snoc]; exact F8
    · refine ⟨by rw [List.length_append, R3.1, take_snoc hget, List.length_append]; rfl, fun j r' S' q' h1 h2 h3 => ?_⟩
      rw [take_snoc hget] at h3
      rw [take_snoc hget, runK_snoc] at h2
      have hrl := R3.1
      have hkl := runK_len (st.take i) (addAll [] xs)
      by_cases hj : j < (st.take i).length
      · rw [List.getElem?_append_left (by omega)] at h1
        rw [List.getElem?_append_left (by omega)] at h2
        rw [List.getElem?_append_left hj] at h3
        exact hR8 r' S' q'.2 (R3.2 j r' S' q' h1 h2 h3)
      · rw [List.getElem?_append_right (by omega)] at h1 h2 h3
        have hj0 : j - (st.take i).length = 0 := by
          have := (List.getElem?_eq_some_iff.1 h3).1
          simp only [List.length_singleton] at this; omega
        rw [hrl, hj0] at h1
        rw [hkl, hj0] at h2
        rw [hj0] at h3
        simp only [List.getElem?_cons_zero, Option.some.injEq] at h1 h2 h3
        subst h1; subst h2; subst h3
        exact r8
    · rw [rflat_append]; exact o8
  have hbi : Blk w6 n14 32 [.int .i64 q.1, .slice ip0 q.2.length ic0] := b6
  rcases hop with h | h | h
  · rw [h]
    rw [show ((1 : Int) == 1) = true from rfl]
    simp only [BIf_true]
    refine load_slice (i := 1) hbi rfl ?_
    refine F31_call (F31_spec (hI0.fr0 f06) rfl (by omega) fun q7 c7 w7 o7 hq7 f7 => back_slice ?_)
    refine F32_call (F32_spec (s6.fr0 f7) o7.anys rfl (by omega) (fun b hb => by have := hq7 b hb; have := f36.size; exact ⟨by omega, by omega⟩) fun w8 s8 f8 => back0 ?_)
    refine rest none 0 0 w8 ?_ (.inl ⟨rfl, rfl, rfl⟩) ((f7.mono (S' := fun b => b = sb ∨ b = mb) fun _ h => h.elim).trans f8 fun _ h => .inl h)
    rw [show stepK (lastK (addAll [] xs) (st.take i)) q.1 q.2 = addAll (lastK (addAll [] xs) (st.take i)) q.2 by unfold stepK; rw [if_pos h]]
    exact s8
  · rw [h]
    rw [show ((2 : Int) == 1) = false from rfl, show ((2 : Int) == 2) = true from rfl]
    simp only [BIf_true, BIf_false]
    refine load_slice (i := 1) hbi rfl ?_
    refine F31_call (F31_spec (hI0.fr0 f06) rfl (by omega) fun q7 c7 w7 o7 hq7 f7 => back_slice ?_)
    refine F33_call (F33_spec (s6.fr0 f7) o7.anys rfl (by omega) (fun b hb => by have := hq7 b hb; have := f36.size; exact ⟨by omega, by omega⟩) fun w8 s8 f8 => back0 ?_)
    refine rest none 0 0 w8 ?_ (.inl ⟨rfl, rfl, rfl⟩) ((f7.mono (S' := fun b => b = sb ∨ b = mb) fun _ h => h.elim).trans f8 fun _ h => .inl h)
    rw [show stepK (lastK (addAll [] xs) (st.take i)) q.1 q.2 = remAll (lastK (addAll [] xs) (st.take i)) q.2 by unfold stepK; rw [if_neg (by omega), if_pos h]]
    exact s8
  · rw [h]
    rw [show ((4 : Int) == 1) = false from rfl, show ((4 : Int) == 2) = false from rfl, show ((4 : Int) == 3) = false from rfl]
    simp only [BIf_false]
    have e : stepK (lastK (addAll [] xs) (st.take i)) q.1 q.2 = lastK (addAll [] xs) (st.take i) := by unfold stepK; rw [if_neg (by omega), if_neg (by omega), if_neg (by omega)]
    rw [e] at rest
    exact rest fp fl fc w6 s6 F6 (Fr.refl _ _)
end Go.Proofs.Ytokejbejoegnnaa.E
