/-
  Plus trees: several keys at once; a run.
-/
import Derived.Test.YtofnapddoiodkaaPtW
namespace Go.Proofs.Ytofnapddoiodkaa.E
open Go
set_option linter.unusedSimpArgs false
set_option linter.unusedVariables false
set_option maxRecDepth 100000
set_option maxHeartbeats 8000000

def putAll (L : List KV) (xs : List KV) : List KV := xs.foldl (fun l x => puts x l) L
theorem putAll_snoc (L xs : List KV) (x : KV) : putAll L (xs ++ [x]) = puts x (putAll L xs) := by unfold putAll; rw [List.foldl_append]; rfl
theorem puts_le (q : KV) (l : List KV) : (puts q l).length ≤ l.length + 1 := by
  unfold puts les mor
  have h : ∀ l : List KV, (l.filter fun x => decide (x.1 < q.1)).length + (l.filter fun x => decide (q.1 < x.1)).length ≤ l.length := fun l => by
    induction l with
    | nil => simp
    | cons a l ih =>
      rcases Int.lt_trichotomy a.1 q.1 with h | h | h
      · rw [List.filter_cons, if_pos (by simpa using h), List.filter_cons, if_neg (by simp; omega)]; simp; omega
      · rw [List.filter_cons, if_neg (by simp; omega), List.filter_cons, if_neg (by simp; omega)]; simp; omega
      · rw [List.filter_cons, if_neg (by simp; omega), List.filter_cons, if_pos (by simpa using h)]; simp; omega
  have := h l
  simp; omega
theorem putAll_le (xs : List KV) : ∀ L : List KV, (putAll L xs).length ≤ L.length + xs.length := by
  induction xs with
  | nil => intro L; exact Nat.le_refl _
  | cons x xs ih =>
    intro L
    have h1 := ih (puts x L)
    have h2 := puts_le x L
    show (putAll (puts x L) xs).length ≤ _
    simp; omega
section
variable {w : World} {S tb : Nat}
/-- Insert. -/
theorem F8_spec {k : Value → W} {L xs : List KV} {F : Nat → Prop} {p : Option Addr} {c : Nat} (h : PTree w tb S L F) (hO : Own w 48 p xs.length c (kvs xs)) (hp : ∀ b, bl p b → ¬ F b) (hl : L.length + xs.length < 4000000000)
    (hk : ∀ w' F', PTree w' tb S (putAll L xs) F' → Fr F w w' → (∀ b, F' b → F b ∨ w.heap.size ≤ b) → k (.tuple #[]) w') : F8 k (some ⟨tb, 0, none⟩) p xs.length c w := by
  unfold F8
  refine F8_L1_rule (I := fun t' ip il ic m j w' => t' = some ⟨tb, 0, none⟩ ∧ ip = p ∧ il = xs.length ∧ ic = c ∧ m = ((xs.length : Nat) : Int) ∧ ∃ (t : Nat) (F' : Nat → Prop), j = ((t : Nat) : Int) ∧ t ≤ xs.length ∧ PTree w' tb S (putAll L (xs.take t)) F' ∧ Fr F w w' ∧ (∀ b, F' b → F b ∨ w.heap.size ≤ b))
    (μ := fun t' ip il ic m j w' => xs.length - j.toNat) ?_ ⟨rfl, rfl, rfl, rfl, rfl, 0, F, rfl, Nat.zero_le _, h, Fr.refl _ _, fun b hb => .inl hb⟩
  rintro _ _ il ic m j w1 ⟨rfl, rfl, e1, e2, rfl, t, F1, rfl, ht, h1, f1, hF1⟩
  unfold F8_L1
  rw [e1]
  by_cases hlt : t < xs.length
  · rw [decide_eq_true (show ((t : Nat) : Int) < ((xs.length : Nat) : Int) by omega), BIf_true]
    have hx : xs[t]? = some xs[t] := List.getElem?_eq_getElem hlt
    have hO1 := hO.fr f1 hp
    obtain ⟨q, rest, rfl, hB, _, _⟩ := hO1.get (by omega)
    rw [NN_mk, Req_iff, Int.toNat_natCast, add_mk, Nat.zero_add]
    refine ⟨⟨by omega, by omega⟩, load_any (v := kv xs[t]) hB (by rw [List.getElem?_append_left (by simpa using hlt), kvs_get, hx]; rfl) ?_⟩
    have hle := putAll_le (xs.take t) L
    rw [List.length_take] at hle
    refine F15_call (F15_spec h1 (by omega) fun w2 F2 h2 f2 hF2 => back0 ?_)
    rw [addI_i64 (by omega) (by omega)]
    refine ⟨⟨rfl, rfl, rfl, e2, rfl, t + 1, F2, by omega, hlt, by rw [take_snoc hx, putAll_snoc]; exact h2, f1.trans f2 hF1, fun b hb => ?_⟩, ?_⟩
    · rcases hF2 b hb with h | h
      · exact hF1 b h
      · have := f1.size; exact .inr (by omega)
    · show xs.length - (((t : Nat) : Int) + 1).toNat < xs.length - ((t : Nat) : Int).toNat
      omega
  · rw [decide_eq_false (show ¬ ((t : Nat) : Int) < ((xs.length : Nat) : Int) by omega), BIf_false]
    have : t = xs.length := by omega
    subst this
    rw [List.take_length] at h1
    exact hk w1 F1 h1 f1 hF1
theorem und43 : Try.prog.underlying 43 = some (.slice 48) := by kernel_rfl
theorem und45 : Try.prog.underlying 45 = some (.slice 48) := by kernel_rfl
theorem encO_cells (o : Option KV) : (encO o).cells = #[encO o] := by cases o <;> rfl
theorem encO_one (o : Option KV) : (encO o).oneCell' = true := by cases o <;> rfl
/-- Get. -/
theorem F10_spec {k : Value → W} {L xs : List KV} {F : Nat → Prop} {p : Option Addr} {c : Nat} (h : PTree w tb S L F) (hO : Own w 48 p xs.length c (kvs xs)) (hl : xs.length < 4000000000)
    (hk : ∀ w' p' c', Own w' 48 p' xs.length c' ((xs.map fun x => look x.1 L).map encO) → (∀ b, bl p' b → w.heap.size ≤ b) → Fr (fun _ => False) w w' → k (.slice p' xs.length c') w') : F10 k (some ⟨tb, 0, none⟩) p xs.length c w := by
  obtain ⟨i48, g1, g2, g3, g4⟩ := inf48
  unfold F10
  refine make_intro 0 xs.length und45 g1 g2 g3 rfl (by omega) (by omega) (by omega) fun w0 f0 o0 _ z0 => ?_
  refine F10_L1_rule (I := fun t' rp rl rc ip il ic m j w' => t' = some ⟨tb, 0, none⟩ ∧ ip = p ∧ il = xs.length ∧ ic = c ∧ m = ((xs.length : Nat) : Int) ∧ ∃ t : Nat, j = ((t : Nat) : Int) ∧ t ≤ xs.length ∧ rl = t ∧ Own w' 48 rp rl rc (((xs.take t).map fun x => look x.1 L).map encO) ∧ (∀ b, bl rp b → w.heap.size ≤ b) ∧ Fr (fun _ => False) w w')
    (μ := fun t' rp rl rc ip il ic m j w' => xs.length - j.toNat) ?_ ⟨rfl, rfl, rfl, rfl, rfl, 0, rfl, Nat.zero_le _, rfl, o0, (fun b hb => by rw [bl_q.1 hb]; exact Nat.le_refl _), f0⟩
  rintro _ rp rl rc _ il ic m j w1 ⟨rfl, rfl, e1, e2, rfl, t, rfl, ht, rfl, oL, hop, f1⟩
  unfold F10_L1
  rw [e1]
  by_cases hlt : rl < xs.length
  · rw [decide_eq_true (show ((rl : Nat) : Int) < ((xs.length : Nat) : Int) by omega), BIf_true]
    have hx : xs[rl]? = some xs[rl] := List.getElem?_eq_getElem hlt
    have hO1 := hO.fr f1 fun _ _ => id
    obtain ⟨q, rest, rfl, hB, _, _⟩ := hO1.get (by omega)
    rw [NN_mk, Req_iff, Int.toNat_natCast, add_mk, Nat.zero_add]
    refine ⟨⟨by omega, by omega⟩, load_any (v := kv xs[rl]) hB (by rw [List.getElem?_append_left (by simpa using hlt), kvs_get, hx]; rfl) ?_⟩
    refine F16_call (F16_spec (h.fr f1 fun _ _ => id) fun w2 f2 => back_any ?_)
    have oL2 := oL.fr f2 fun _ _ => id
    have hz1 := f1.size
    have hz2 := f2.size
    refine append1 (P := Try.prog) und45 g1 g2 g3 rfl g4 oL2 (encO_one _) (encO_cells _) (by omega) fun p' c' w3 f3 o3 hp3 hz3 => ?_
    rw [addI_i64 (by omega) (by omega)]
    refine ⟨⟨rfl, rfl, rfl, e2, rfl, rl + 1, by omega, hlt, rfl, ?_, fun b hb => ?_, (f1.trans f2 fun _ h => h.elim).trans f3 fun b hb => .inr (hop b hb)⟩, ?_⟩
    · rw [take_snoc hx, List.map_append, List.map_append]; exact o3
    · rcases hp3 b hb with h | h
      · exact hop b h
      · omega
    · show xs.length - (((rl : Nat) : Int) + 1).toNat < xs.length - ((rl : Nat) : Int).toNat
      omega
  · rw [decide_eq_false (show ¬ ((rl : Nat) : Int) < ((xs.length : Nat) : Int) by omega), BIf_false]
    have : rl = xs.length := by omega
    subst this
    rw [List.take_length] at oL
    exact hk w1 rp rc oL hop f1
/-- keys. -/
theorem F9_spec {k : Value → W} {xs : List KV} {p : Option Addr} {c : Nat} (hS : Sl ItK w p xs) (hl : xs.length < 4000000000)
    (hk : ∀ w' p' c', Own w' 48 p' xs.length c' (kvs xs) → (∀ b, bl p' b → w.heap.size ≤ b) → Fr (fun _ => False) w w' → k (.slice p' xs.length c') w') : F9 k p xs.length c w := by
  obtain ⟨i, g1, g2, g3, g4⟩ := inf48
  unfold F9
  refine F9_L1_rule (I := fun op ol oc ip il ic m j w' => ip = p ∧ il = xs.length ∧ ic = c ∧ m = ((xs.length : Nat) : Int) ∧ ∃ t : Nat, j = ((t : Nat) : Int) ∧ t ≤ xs.length ∧ ol = t ∧ Own w' 48 op ol oc (kvs (xs.take t)) ∧ (∀ b, bl op b → w.heap.size ≤ b) ∧ Fr (fun _ => False) w w')
    (μ := fun op ol oc ip il ic m j w' => xs.length - j.toNat) ?_ ⟨rfl, rfl, rfl, rfl, 0, rfl, Nat.zero_le _, rfl, Own.nil _ _, (fun b ⟨_, h, _⟩ => by cases h), Fr.refl _ _⟩
  rintro op ol oc _ il ic m j w1 ⟨rfl, e1, e2, rfl, t, rfl, ht, rfl, oL, hop, f1⟩
  unfold F9_L1
  rw [e1]
  by_cases hlt : ol < xs.length
  · rw [decide_eq_true (show ((ol : Nat) : Int) < ((xs.length : Nat) : Int) by omega), BIf_true]
    have hx : xs[ol]? = some xs[ol] := List.getElem?_eq_getElem hlt
    obtain ⟨q, o, rfl, h0, h1⟩ := (hS.fr0 f1).get hx
    simp only [NN_mk, Int.toNat_natCast, add_mk]
    refine ⟨by omega, LoadT_int.2 ⟨_, h0, LoadT_int.2 ⟨_, h1, ?_⟩⟩⟩
    refine new_intro fun n w2 e2 b2 f2 z2 => ?_
    refine store_intro (i := 0) b2 (by simp) rfl fun w3 b3 f3 z3 => ?_
    refine store_intro (i := 1) b3 (by simp) rfl fun w4 b4 f4 z4 => ?_
    refine load_int (i := 0) b4 rfl (load_int (i := 1) b4 rfl ?_)
    have f14 : Fr (fun _ => False) w1 w4 := ((f2.mono (S' := fun b => b = n) fun _ h => h.elim).trans f3 fun b h => .inl h).trans f4 (fun b h => .inl h) |>.mono fun b h => .inr (by have h : b = n := h; omega)
    have oL4 := oL.fr f14 fun _ _ h => h
    have hz1 := f1.size
    have hz14 := f14.size
    refine append1 (P := Try.prog) und43 g1 g2 g3 rfl g4 oL4 (v := kv xs[ol]) rfl rfl (by omega) fun p' c' w5 f5 o5 hp5 hz5 => ?_
    rw [addI_i64 (by omega) (by omega)]
    refine ⟨⟨by trivial, by trivial, by assumption, by trivial, ol + 1, by omega, hlt, rfl, ?_, fun b hb => ?_, (f1.trans f14 fun _ h => h.elim).trans f5 fun b hb => .inr (hop b hb)⟩, ?_⟩
    · rw [take_snoc hx, kvs_app]; exact o5
    · rcases hp5 b hb with h | h
      · exact hop b h
      · omega
    · show xs.length - (((ol : Nat) : Int) + 1).toNat < xs.length - ((ol : Nat) : Int).toNat
      omega
  · rw [decide_eq_false (show ¬ ((ol : Nat) : Int) < ((xs.length : Nat) : Int) by omega), BIf_false]
    have : ol = xs.length := by omega
    subst this
    rw [List.take_length] at oL
    exact hk w1 op oc oL hop f1
end

/-! ## A run -/
def ansO (os : List (Option KV)) : Ans := Ans.kps ⟨[], [], 0⟩ os
def stepL (L : List KV) (s : Stp) : List KV := if s.op = 1 then putAll L s.words else L
def stepA (L : List KV) (s : Stp) : Ans := if s.op = 1 then ⟨[], [], 0⟩ else if s.op = 2 then ansO (s.words.map fun x => look x.1 L) else ⟨[], [], L.length⟩
def runA (L : List KV) : List Stp → List Ans
  | [] => []
  | s :: ss => stepA L s :: runA (stepL L s) ss
def runL (L : List KV) (ss : List Stp) : List KV := ss.foldl stepL L
theorem runL_snoc (l : List KV) (ss : List Stp) (s : Stp) : runL l (ss ++ [s]) = stepL (runL l ss) s := by unfold runL; rw [List.foldl_append]; rfl
theorem runA_snoc : ∀ (ss : List Stp) (l : List KV) (s : Stp), runA l (ss ++ [s]) = runA l ss ++ [stepA (runL l ss) s]
  | [], l, s => rfl
  | a :: ss, l, s => by show _ :: runA _ (ss ++ [s]) = _ :: _; rw [runA_snoc ss]; rfl
theorem runA_length : ∀ (ss : List Stp) (l : List KV), (runA l ss).length = ss.length
  | [], _ => rfl
  | a :: ss, l => by show (runA _ ss).length + 1 = _; rw [runA_length ss]; rfl
def tot : List Stp → Nat
  | [] => 0
  | s :: ss => s.words.length + tot ss
theorem tot_app : ∀ a b : List Stp, tot (a ++ b) = tot a + tot b
  | [], b => by simp [tot]
  | x :: a, b => by simp [tot, tot_app a b]; omega
theorem runL_le : ∀ (ss : List Stp) (l : List KV), (runL l ss).length ≤ l.length + tot ss
  | [], l => Nat.le_refl _
  | s :: ss, l => by
    have h1 := runL_le ss (stepL l s)
    have h2 : (stepL l s).length ≤ l.length + s.words.length := by
      unfold stepL; split
      · exact putAll_le _ _
      · omega
    show (runL (stepL l s) ss).length ≤ _
    simp only [tot]; omega
def Okay (s : Stp) : Prop := s.op = 1 ∨ s.op = 2 ∨ s.op = 4

def z39 : Value := .agg #[.slice none 0 0, .slice none 0 0, .int .u64 0]
theorem und36 : Try.prog.underlying 36 = some (.slice 39) := by kernel_rfl
theorem inf39 : ∃ i, Try.prog.info? 39 = some i ∧ i.zero = some z39 ∧ i.size = 3 ∧ i.bytes ≤ 4096 := ⟨_, rfl, by kernel_rfl, by kernel_rfl, Nat.le_of_ble_eq_true (by kernel_rfl)⟩
theorem fill39 (p : Option Addr) (l c : Nat) (p' : Option Addr) (l' c' : Nat) (n : Int) : ∀ i : TypeInfo, i.size = 3 → Instr.fill (fun j => some (j * i.size, i.size)) ((Array.range (1 * i.size)).map (z39.cells[· % z39.cells.size]!)) [(0, .agg #[.slice p l c, .slice p' l' c', .int .u64 n])] = some [.slice p l c, .slice p' l' c', .int .u64 n].toArray := by
  intro i h; rw [h]; kernel_rfl
/-- An answer appended. -/
theorem add_an {w : World} {f : Option Addr → Nat → Nat → W} {ty : TypeId} {cs : Array Bool} {p : Option Addr} {l c : Nat} {ss : List Ans} {s : Ans} {pi ph : Option Addr} {ci li ch lh : Nat} {n : Int} (h : SlO AnK w p l c ss) (hli : li = s.items.length) (hlh : lh = s.is.length) (hn : n = (s.n : Nat)) (hi : Sl ItK w pi s.items) (hh : Sl BoK w ph s.is) (hl : l < 4000000000)
    (hk : ∀ p' c' w', Fr (fun b => bl p b) w w' → SlO AnK w' p' (l + 1) c' (ss ++ [s]) → (∀ b, bl p' b → bl p b ∨ w.heap.size ≤ b) → f p' (l + 1) c' w') :
    RawT Try.prog (Instr.buildSlice 36 1 [(0, .agg #[.slice pi li ci, .slice ph lh ch, .int .u64 n])].toArray) (.s (.one .slice)) (fun a m d => NextT Try.prog (builtin .append #[36, 36] ty cs [.slice p l c, .slice a m d].toArray) (.s (.one .slice)) f) w := by
  subst hli hlh hn
  obtain ⟨i, g1, g2, g3, g4⟩ := inf39
  refine build_intro und36 g1 g2 (by omega) (by omega) (fill39 _ _ _ _ _ _ _ i g3) fun w1 f1 b1 z1 => ?_
  have h1 := h.fr0 f1
  refine SlO.append (K := AnK) und36 g1 g2 g3 (by decide) rfl g4 (by decide) h1 b1 (ys := [s]) (Rows.one ⟨pi, ci, ph, ch, rfl, rfl, rfl, hi.fr0 f1, hh.fr0 f1⟩) rfl rfl (fun u hu => ?_) (by omega) fun p' c' w' f' o' hp => hk p' c' w' ((f1.mono fun _ h => h.elim).trans f' fun _ h => .inl h) o' fun b hb => (hp b hb).imp id fun h => by omega
  simp only [List.mem_cons, List.not_mem_nil, or_false] at hu
  rcases hu with rfl | rfl | rfl <;> rfl
theorem own_not {w w' : World} {S : Nat → Prop} {e : TypeId} {p : Option Addr} {l c : Nat} {vs : List Value} {ts : List TypeId} (h : Own w e p l c vs) (hT : Tys S w ts) (he : e ∉ ts) : ∀ b, bl p b → ¬ S b := fun b hb hS => by
  obtain ⟨us, hu⟩ := h.blk hb
  exact he (hT b e us hS hu)
theorem kps_len (a : Ans) (os : List (Option KV)) : (a.kps os).items.length = a.items.length + os.length ∧ (a.kps os).is.length = a.is.length + os.length := by
  unfold Ans.kps; simp
end Go.Proofs.Ytofnapddoiodkaa.E
