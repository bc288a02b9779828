/-
  Range trees of skip lists: what the statements ask of an answer (srAsked, rtSays).
-/
import Derived.Test.YtfokodpnoiilbaaGreatQQ
import Derived.Test.YtfokodpnoiilbaaGreatRH
namespace Go.Proofs.YtfokodpnoiilbaaGreat.E
open Go
set_option linter.unusedSimpArgs false
set_option linter.unusedVariables false
set_option maxRecDepth 100000
set_option maxHeartbeats 8000000

/-! ## Plain -/
theorem olds_get (dm : Nat) : ∀ (xs : List PD) (M : OP dm) (t : Nat) (x : PD), xs[t]? = some x → (oldsP dm M xs)[t]? = some (oldP dm (addsP dm M (xs.take t)) x)
  | [], M, t, x, h => by simp at h
  | y :: xs, M, 0, x, h => by simp at h; subst h; rfl
  | y :: xs, M, t + 1, x, h => by
    show (oldsP dm (addP dm M y) xs)[t]? = _
    rw [olds_get dm xs (addP dm M y) t x (by simpa using h)]; rfl
theorem addsP_snoc (dm : Nat) (M : OP dm) (xs : List PD) (x : PD) : addsP dm M (xs ++ [x]) = addP dm (addsP dm M xs) x := by unfold addsP; rw [List.foldl_append]; rfl
/-- The tree, the list behind some entries of a step. -/
def MAt (dm : Nat) (M : OP dm) (s : DStp) (t : Nat) : OP dm := if s.op = 1 then addsP dm M (s.dots.take t) else M
def nowAt (now : List PD) (s : DStp) (t : Nat) : List PD := if s.op = 1 then putsP now (s.dots.take t) else now
/-- What a step answers, entry by entry. -/
def oldsA (dm : Nat) (M : OP dm) (s : DStp) : List (Option PD) := if s.op = 1 then oldsP dm M s.dots else s.dots.map (oldP dm M)
theorem oldsA_get {dm : Nat} {M : OP dm} {now : List PD} {s : DStp} {t : Nat} {x : PD} (h : Same dm (MAt dm M s t) (nowAt now s t)) (hx : s.dots[t]? = some x) (hl : x.1.length = dm) : (oldsA dm M s)[t]? = some (fndP x.1 (nowAt now s t)) := by
  rw [← (h.add hl).2]
  unfold oldsA MAt
  by_cases ho : s.op = 1
  · rw [if_pos ho, if_pos ho]; exact olds_get dm s.dots M t x hx
  · rw [if_neg ho, if_neg ho, List.getElem?_map, hx]; rfl
theorem same_next {dm : Nat} {M : OP dm} {now : List PD} {s : DStp} {t : Nat} {x : PD} (h : Same dm (MAt dm M s t) (nowAt now s t)) (hx : s.dots[t]? = some x) (hl : x.1.length = dm) : Same dm (MAt dm M s (t + 1)) (nowAt now s (t + 1)) := by
  by_cases ho : s.op = 1
  · have e1 : MAt dm M s (t + 1) = addP dm (MAt dm M s t) x := by unfold MAt; rw [if_pos ho, if_pos ho, take_snoc hx, addsP_snoc]
    have e2 : nowAt now s (t + 1) = insP (nowAt now s t) x := by unfold nowAt; rw [if_pos ho, if_pos ho, take_snoc hx, putsP_snoc]
    rw [e1, e2]
    exact (h.add hl).1
  · have e1 : MAt dm M s (t + 1) = MAt dm M s t := by unfold MAt; rw [if_neg ho, if_neg ho]
    have e2 : nowAt now s (t + 1) = nowAt now s t := by unfold nowAt; rw [if_neg ho, if_neg ho]
    rw [e1, e2]; exact h
theorem oldsA_len (dm : Nat) (M : OP dm) (s : DStp) : (oldsA dm M s).length = s.dots.length := by
  unfold oldsA; split
  · exact olds_len dm _ _
  · exact List.length_map _
section
variable {w : World} {k : Value → W}
/-- rtLess. -/
theorem F14_spec {l : List Int} {p : Option Addr} {c : Nat} (hS : Sl In64K w p l) (hl : l.length < 1000) (hr : ∀ v ∈ l, 0 ≤ v ∧ v < 28) (hk : ∀ w' p' c' l', l' = l.map (· - 1) → Sl In64K w' p' l' → Fr (fun _ => False) w w' → k (.slice p' l.length c') w') : F14 k p l.length c 1 w := by
  unfold F14
  refine F14_L1_rule (I := fun ap al ac b op ol oc i w' => ap = p ∧ al = l.length ∧ b = 1 ∧ ∃ (t : Nat) (l' : List Int), i = ((t : Nat) : Int) ∧ t ≤ l.length ∧ ol = t ∧ l' = (l.take t).map (· - 1) ∧ SlO In64K w' op t oc l' ∧ (∀ b, bl op b → w.heap.size ≤ b) ∧ Fr (fun _ => False) w w')
    (μ := fun ap al ac b op ol oc i w' => l.length - i.toNat) ?_ ⟨rfl, rfl, rfl, 0, [], rfl, Nat.zero_le _, rfl, rfl, SlO.nil _ _, (fun b ⟨_, h, _⟩ => by cases h), Fr.refl _ _⟩
  rintro ap al ac b op ol oc i w1 ⟨e1, e2, e3, t, l', rfl, ht, e4, hl', O, hp, f1⟩
  unfold F14_L1
  rw [e1, e2, e3, e4]
  by_cases hlt : t < l.length
  · rw [decide_eq_true (show ((t : Nat) : Int) < ((l.length : Nat) : Int) by omega), BIf_true]
    have hx : l[t]? = some l[t] := List.getElem?_eq_getElem hlt
    have hxr := hr _ (List.getElem_mem hlt)
    generalize l[t] = x at hx hxr
    obtain ⟨qa, oa, epa, ca⟩ := sl64_get (hS.fr0 f1) hx
    rw [epa]
    simp only [NN_mk, Int.toNat_natCast, add_mk]
    refine Req_iff.2 ⟨by omega, LoadT_int.2 ⟨_, ca, ?_⟩⟩
    rw [subI_i64 (by omega) (by omega)]
    refine bld_i64 fun nb w2 e5 b2 f2 z2 => ?_
    refine app_i64 (O.fr0 f2) b2 (by omega) fun p' c' w3 f3 O3 hp3 => ?_
    have z1 := f1.size
    rw [addI_i64 (by omega) (by omega)]
    refine ⟨⟨by trivial, by trivial, by trivial, t + 1, l' ++ [x - 1], by omega, hlt, by trivial, by rw [hl', take_snoc hx, List.map_append]; rfl, O3, fun b hb => ?_, (f1.trans f2 fun _ h => h.elim).trans f3 fun b hb => .inr (hp b hb)⟩, ?_⟩
    · rcases hp3 b hb with h | h
      · exact hp b h
      · omega
    · show l.length - (((t : Nat) : Int) + 1).toNat < l.length - ((t : Nat) : Int).toNat
      omega
  · rw [decide_eq_false (show ¬ ((t : Nat) : Int) < ((l.length : Nat) : Int) by omega), BIf_false]
    have : t = l.length := by omega
    subst this
    rw [List.take_length] at hl'
    exact hk w1 op oc l' hl' O.sl f1
/-- srAsked. -/
theorem F6_spec {op on dim idx num most : Int} {p : Option Addr} {l c : Nat} {pl : Option Addr} {ll cl : Nat} {hi : List Int} {ph : Option Addr} {ch : Nat} (hS : Sl In64K w ph hi) (hl : hi.length < 1000) (hr : ∀ v ∈ hi, 0 ≤ v ∧ v < 28)
    (hk : ∀ w' ph' ch', Sl In64K w' ph' (hi.map (· - 1)) → Fr (fun _ => False) w w' → k (.agg #[.int .i64 op, .int .i64 on, .slice p l c, .slice pl ll cl, .slice ph' hi.length ch', .int .u64 dim, .int .i64 idx, .int .i64 num, .int .i64 most]) w') :
    F6 k op on p l c pl ll cl ph hi.length ch dim idx num most w := by
  unfold F6
  refine new_intro fun n10 w1 e1 b1 f1 z1 => new_intro fun n11 w2 e2 b2 f2 z2 => ?_
  have b1 := b1.fr f2 id
  have f02 := f1.trans f2 fun _ h => h.elim
  refine load_slice (i := 4) b1 rfl ?_
  refine F14_call (F14_spec (hS.fr0 f02) hl hr fun w3 p3 c3 l3 e3' S3 f3 => back_slice ?_)
  have b1 := b1.fr f3 id
  have b2 := b2.fr f3 id
  refine store_intro (i := 4) b1 (by simp) rfl fun w4 b4 f4 z4 => ?_
  have b4 : Blk w4 n10 31 [.int .i64 op, .int .i64 on, .slice p l c, .slice pl ll cl, .slice p3 hi.length c3, .int .u64 dim, .int .i64 idx, .int .i64 num, .int .i64 most] := b4
  have b2 := b2.fr f4 (fun e => by omega)
  refine load_int (i := 0) b4 rfl (load_int (i := 1) b4 rfl (load_slice (i := 2) b4 rfl (load_slice (i := 3) b4 rfl (load_slice (i := 4) b4 rfl (load_int (i := 5) b4 rfl (load_int (i := 6) b4 rfl (load_int (i := 7) b4 rfl (load_int (i := 8) b4 rfl ?_))))))))
  refine store_intro (i := 0) b2 (by simp) rfl fun w5 b5 f5 z5 => ?_
  refine store_intro (i := 1) b5 (by simp) rfl fun w6 b6 f6 z6 => ?_
  refine store_intro (i := 2) b6 (by simp) rfl fun w7 b7 f7 z7 => ?_
  refine store_intro (i := 3) b7 (by simp) rfl fun w8 b8 f8 z8 => ?_
  refine store_intro (i := 4) b8 (by simp) rfl fun w9 b9 f9 z9 => ?_
  refine store_intro (i := 5) b9 (by simp) rfl fun wa ba fa za => ?_
  refine store_intro (i := 6) ba (by simp) rfl fun wb bb fb zb => ?_
  refine store_intro (i := 7) bb (by simp) rfl fun wc bc fc zc => ?_
  refine store_intro (i := 8) bc (by simp) rfl fun wd bd fd zd => ?_
  have bd : Blk wd n11 31 [.int .i64 op, .int .i64 on, .slice p l c, .slice pl ll cl, .slice p3 hi.length c3, .int .u64 dim, .int .i64 idx, .int .i64 num, .int .i64 most] := bd
  refine load_int (i := 0) bd rfl (load_int (i := 1) bd rfl (load_slice (i := 2) bd rfl (load_slice (i := 3) bd rfl (load_slice (i := 4) bd rfl (load_int (i := 5) bd rfl (load_int (i := 6) bd rfl (load_int (i := 7) bd rfl (load_int (i := 8) bd rfl ?_))))))))
  have i : ∀ x, x = n11 → x = n11 ∨ w4.heap.size ≤ x := fun _ h => .inl h
  have f4d : Fr (fun b => b = n11) w4 wd := (((((((f5.trans f6 i).trans f7 i).trans f8 i).trans f9 i).trans fa i).trans fb i).trans fc i).trans fd i
  have T4 : Tys (fun b => b = n10) w3 [31] := Tys.one b1
  have T4d : Tys (fun b => b = n11) w4 [31] := Tys.one b2
  exact hk wd p3 c3 (by rw [← e3']; exact (S3.fr f4 T4 (by decide)).fr f4d T4d (by decide)) (((f02.trans f3 fun _ h => h.elim).trans f4 fun b hb => .inr (by have hb : b = n10 := hb; omega)).trans f4d fun b hb => .inr (by have hb : b = n11 := hb; omega))
theorem slb_get {p : Option Addr} {l : List Bool} (h : Sl BoK w p l) {i : Nat} {x : Bool} (hx : l[i]? = some x) : ∃ q o, p = some ⟨q, o, none⟩ ∧ w.cell? ⟨q, o + i, none⟩ = some (.bool x) := by
  obtain ⟨q, o, rfl, g0⟩ := h.get hx
  refine ⟨q, o, rfl, ?_⟩
  have : w.cell? ⟨q, o + i * 1 + 0, none⟩ = some (.bool x) := g0
  rw [show o + i * 1 + 0 = o + i by omega] at this; exact this
theorem back_slb {f : Option Addr → Nat → Nat → Bool → W} {p : Option Addr} {l c : Nat} {b : Bool} (h : f p l c b w) : Back (.tup [(.one .slice), (.one .bool)]) f (.returned (.tuple #[.slice p l c, .bool b])) w := ⟨((p, l, c), b, ()), rfl, h⟩
end
end Go.Proofs.YtfokodpnoiilbaaGreat.E
