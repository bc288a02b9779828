/-
  Interval trees: nodes in memory as a state; the small functions; rotations as what they do to a state.
-/
import Derived.Test.YthapmkjmfkmnoaaFnsA
import Derived.Test.YthapmkjmfkmnoaaRec
import Derived.Test.YthapmkjmfkmnoaaWide
import Derived.Test.YthapmkjmfkmnoaaArith
import Derived.LaidEql
namespace Go.Proofs.Ythapmkjmfkmnoaa.E
open Go
set_option linter.unusedSimpArgs false
set_option linter.unusedVariables false
set_option maxRecDepth 100000
set_option maxHeartbeats 8000000

def IntK : Rk Int := ⟨2, 1, fun _ g x => g 0 = some (.int .i64 x), [], fun h h0 => by rw [← h 0 (by decide)]; exact h0, fun _ _ h => h⟩
/-- An interval: its ends (and where they are read), its number. -/
structure Spn where
  p : Option Addr
  c : Nat
  q : Option Addr
  d : Nat
  lows : List Int
  highs : List Int
  id : Nat
def Spn.a (x : Spn) : Value := .agg #[.slice x.p x.lows.length x.c, .slice x.q x.highs.length x.d, .int .u64 ((x.id : Nat) : Int)]
def Spn.v (x : Spn) : Value := .iface 59 x.a
def plc (l : List Int) (d : Nat) : Int := if d < 1 then 0 else l.getD (d - 1) 0
def Spn.lo (x : Spn) : Int := plc x.lows 1
def Spn.hi (x : Spn) : Int := plc x.highs 1
def SpOk (w : World) (x : Spn) : Prop := Sl IntK w x.p x.lows ∧ Sl IntK w x.q x.highs ∧ x.lows.length < 1000 ∧ x.highs.length < 1000
theorem m_id (p q : Option Addr) (l c m d : Nat) (i : Int) (w : World) : (callMethod (.iface 59 (.agg #[.slice p l c, .slice q m d, .int .u64 i])) "ID" [].toArray).run Try.prog w = .ok (.enter 58 #[.agg #[.slice p l c, .slice q m d, .int .u64 i]]) w := by kernel_rfl
theorem m_hi (p q : Option Addr) (l c m d : Nat) (i j : Int) (w : World) : (callMethod (.iface 59 (.agg #[.slice p l c, .slice q m d, .int .u64 i])) "HighAtDimension" [.int .u64 j].toArray).run Try.prog w = .ok (.enter 57 #[.agg #[.slice p l c, .slice q m d, .int .u64 i], .int .u64 j]) w := by kernel_rfl
theorem m_lo (p q : Option Addr) (l c m d : Nat) (i j : Int) (w : World) : (callMethod (.iface 59 (.agg #[.slice p l c, .slice q m d, .int .u64 i])) "LowAtDimension" [.int .u64 j].toArray).run Try.prog w = .ok (.enter 59 #[.agg #[.slice p l c, .slice q m d, .int .u64 i], .int .u64 j]) w := by kernel_rfl
theorem NextT_enter {P : Program} {s : Sem Next} {r : RTy} {f : Fn W r.leaves} {g : FuncId} {args : Array Value} {w w' : World} (h : s.run P w = .ok (.enter g args) w') (hk : Calls P g args w' (Back r f)) : NextT P s r f w := by
  unfold NextT; rw [h]; exact hk
section
variable {w : World} {k : Value → W}
theorem F61_spec {p : Option Addr} {c d : Nat} {l : List Int} (h : Sl IntK w p l) (hl : l.length < 1000) (hd : d < 1000) (hk : k (.int .i64 (plc l d)) w) : F61 k p l.length c ((d : Nat) : Int) w := by
  unfold F61
  unfold plc at hk
  by_cases h1 : d < 1
  · rw [decide_eq_true (show ((d : Nat) : Int) < 1 by omega), BIf_true]
    rw [if_pos h1] at hk; exact hk
  · rw [decide_eq_false (show ¬ ((d : Nat) : Int) < 1 by omega), BIf_false, wrap_u64 (by omega) (by omega)]
    rw [if_neg h1] at hk
    by_cases h2 : d > l.length
    · rw [decide_eq_true (show ((d : Nat) : Int) > ((l.length : Nat) : Int) by omega), BIf_true]
      rw [List.getD_eq_getElem?_getD, List.getElem?_eq_none (by omega)] at hk; exact hk
    · rw [decide_eq_false (show ¬ ((d : Nat) : Int) > ((l.length : Nat) : Int) by omega), BIf_false]
      have hx : l[d - 1]? = some (l[d - 1]'(by omega)) := List.getElem?_eq_getElem (by omega)
      rw [List.getD_eq_getElem?_getD, hx] at hk
      generalize l[d - 1]'(by omega) = x at hx hk
      obtain ⟨q, o, rfl, g0⟩ := h.get hx
      have g0 : w.cell? ⟨q, o + (d - 1), none⟩ = some (.int .i64 x) := by
        have : w.cell? ⟨q, o + (d - 1) * 1 + 0, none⟩ = some (.int .i64 x) := g0
        rw [show o + (d - 1) * 1 + 0 = o + (d - 1) by omega] at this; exact this
      rw [NN_mk, subI_u64 (by omega) (by omega), show ((d : Nat) : Int) - 1 = ((d - 1 : Nat) : Int) by omega, Int.toNat_natCast, add_mk]
      exact Req_iff.2 ⟨by omega, LoadT_int.2 ⟨_, g0, hk⟩⟩
theorem SpOk.fr {S : Nat → Prop} {w' : World} {x : Spn} (h : SpOk w x) (f : Fr S w w') (hS : ∀ b u us, S b → Blk w b u us → u ≠ 2) : SpOk w' x := by
  have one : ∀ {p : Option Addr} {l : List Int}, Sl IntK w p l → Sl IntK w' p l := fun h => by
    rcases h with h | ⟨q, o, us, e, hB, hR⟩
    · exact .inl h
    · exact .inr ⟨q, o, us, e, hB.fr f fun hs => hS _ _ _ hs hB rfl, hR⟩
  exact ⟨one h.1, one h.2.1, h.2.2⟩
theorem SpOk.fr0 {w' : World} {x : Spn} (h : SpOk w x) (f : Fr (fun _ => False) w w') : SpOk w' x := h.fr f fun _ _ _ h => h.elim
theorem hi_intro {x : Spn} {d : Nat} {f : Int → W} (h : SpOk w x) (hd : d < 1000) (hk : ∀ w', Fr (fun _ => False) w w' → f (plc x.highs d) w') : NextT Try.prog (callMethod x.v "HighAtDimension" [.int .u64 ((d : Nat) : Int)].toArray) (.s (.one (.int .i64))) f w := by
  refine NextT_enter (m_hi _ _ _ _ _ _ _ _ w) (F57_calls ?_)
  unfold F57
  refine new_intro fun n w1 e1 b1 f1 z1 => load_slice (i := 1) b1 rfl ?_
  exact F61_call (F61_spec (h.fr0 f1).2.1 h.2.2.2 hd (back_int (back_int (hk w1 f1))))
theorem lo_intro {x : Spn} {d : Nat} {f : Int → W} (h : SpOk w x) (hd : d < 1000) (hk : ∀ w', Fr (fun _ => False) w w' → f (plc x.lows d) w') : NextT Try.prog (callMethod x.v "LowAtDimension" [.int .u64 ((d : Nat) : Int)].toArray) (.s (.one (.int .i64))) f w := by
  refine NextT_enter (m_lo _ _ _ _ _ _ _ _ w) (F59_calls ?_)
  unfold F59
  refine new_intro fun n w1 e1 b1 f1 z1 => load_slice (i := 0) b1 rfl ?_
  exact F61_call (F61_spec (h.fr0 f1).1 h.2.2.1 hd (back_int (back_int (hk w1 f1))))
theorem id_intro {x : Spn} {f : Int → W} (hk : ∀ w', Fr (fun _ => False) w w' → f ((x.id : Nat) : Int) w') : NextT Try.prog (callMethod x.v "ID" [].toArray) (.s (.one (.int .u64))) f w := by
  refine NextT_enter (m_id _ _ _ _ _ _ _ w) (F58_calls ?_)
  unfold F58
  exact new_intro fun n w1 e1 b1 f1 z1 => load_int (i := 2) b1 rfl (back_int (hk w1 f1))
end
/-! ## Nodes -/
structure Nn where
  x : Option Spn
  mx : Int
  mn : Int
  c0 : Option Nat
  c1 : Option Nat
  red : Bool
abbrev St := Nat → Nn
def oA (o : Option Nat) : Option Addr := o.map fun b => ⟨b, 0, none⟩
@[simp] theorem oA_some (x : Nat) : oA (some x) = some ⟨x, 0, none⟩ := rfl
@[simp] theorem oA_none : oA none = none := rfl
def ndc (n : Nn) : List Value := [(n.x.map Spn.v).getD .nilIface, .int .i64 n.mx, .int .i64 n.mn, .pointer (oA n.c0), .pointer (oA n.c1), .bool n.red, .int .u64 ((((n.x.map Spn.id).getD 0 : Nat)) : Int)]
def up (s : St) (b : Nat) (n : Nn) : St := fun x => if x = b then n else s x
theorem up_same (s : St) (b : Nat) (n : Nn) : up s b n b = n := by simp [up]
theorem up_ne {s : St} {b : Nat} {n : Nn} {x : Nat} (h : x ≠ b) : up s b n x = s x := by simp [up, h]
def MS (w : World) (D : List Nat) (s : St) : Prop := ∀ b ∈ D, Blk w b 71 (ndc (s b)) ∧ ∀ x, (s b).x = some x → SpOk w x
/-- A child by its direction. -/
def ch (n : Nn) (d : Nat) : Option Nat := if d = 0 then n.c0 else n.c1
def setC (n : Nn) (d : Nat) (o : Option Nat) : Nn := if d = 0 then { n with c0 := o } else { n with c1 := o }
section
variable {w w' : World} {D : List Nat} {s : St} {b : Nat} {k : Value → W}
theorem MS.fr {S : Nat → Prop} (h : MS w D s) (f : Fr S w w') (hD : ∀ b ∈ D, ¬ S b) (hS : ∀ b u us, S b → Blk w b u us → u ≠ 2) : MS w' D s := fun b hb => ⟨(h b hb).1.fr f (hD b hb), fun x hx => ((h b hb).2 x hx).fr f hS⟩
theorem MS.fr0 (h : MS w D s) (f : Fr (fun _ => False) w w') : MS w' D s := h.fr f (fun _ _ => id) fun _ _ _ h => h.elim
theorem ms_set {K : W} {i : Nat} {v : Value} {n' : Nn} (h : MS w D s) (hb : b ∈ D) (hi : i < 7) (hv : oneC v = true) (h1 : (ndc (s b)).set i v = ndc n') (hx : n'.x = (s b).x ∨ ∀ x, n'.x = some x → SpOk w x)
    (hk : ∀ w', MS w' D (up s b n') → Fr (fun x => x = b) w w' → w'.heap.size = w.heap.size → K w') : Store1 ⟨b, i, none⟩ v K w :=
  store_intro (h b hb).1 (by simpa [ndc] using hi) hv fun w' b' f z => hk w' (fun y hy => by
    have nS : ∀ b' u us, b' = b → Blk w b' u us → u ≠ 2 := fun y u us e hu => by
      have hu' : Blk w b u us := by rw [← e]; exact hu
      rw [(hu'.unique (h b hb).1).1]; decide
    by_cases e : y = b
    · subst e
      rw [up_same]
      refine ⟨by rw [← h1]; exact b', fun x hx' => ?_⟩
      rcases hx with hx | hx
      · exact ((h y hb).2 x (by rw [← hx]; exact hx')).fr f nS
      · exact (hx x hx').fr f nS
    · rw [up_ne e]
      exact ⟨(h y hy).1.fr f e, fun x hx' => ((h y hy).2 x hx').fr f nS⟩) f z
theorem st_mx {K : W} {v : Int} (h : MS w D s) (hb : b ∈ D) (hk : ∀ w', MS w' D (up s b { s b with mx := v }) → Fr (fun x => x = b) w w' → w'.heap.size = w.heap.size → K w') : Store1 ⟨b, 1, none⟩ (.int .i64 v) K w :=
  ms_set (n' := { s b with mx := v }) h hb (by omega) rfl rfl (.inl rfl) hk
theorem st_mn {K : W} {v : Int} (h : MS w D s) (hb : b ∈ D) (hk : ∀ w', MS w' D (up s b { s b with mn := v }) → Fr (fun x => x = b) w w' → w'.heap.size = w.heap.size → K w') : Store1 ⟨b, 2, none⟩ (.int .i64 v) K w :=
  ms_set (n' := { s b with mn := v }) h hb (by omega) rfl rfl (.inl rfl) hk
theorem st_red {K : W} {v : Bool} (h : MS w D s) (hb : b ∈ D) (hk : ∀ w', MS w' D (up s b { s b with red := v }) → Fr (fun x => x = b) w w' → w'.heap.size = w.heap.size → K w') : Store1 ⟨b, 5, none⟩ (.bool v) K w :=
  ms_set (n' := { s b with red := v }) h hb (by omega) rfl rfl (.inl rfl) hk
theorem st_ch {K : W} {d : Nat} {o : Option Nat} (h : MS w D s) (hb : b ∈ D) (hd : d < 2) (hk : ∀ w', MS w' D (up s b (setC (s b) d o)) → Fr (fun x => x = b) w w' → w'.heap.size = w.heap.size → K w') : Store1 ⟨b, 3 + d, none⟩ (.pointer (oA o)) K w := by
  have : d = 0 ∨ d = 1 := by omega
  rcases this with rfl | rfl
  · exact ms_set (n' := { s b with c0 := o }) h hb (by omega) rfl rfl (.inl rfl) hk
  · exact ms_set (n' := { s b with c1 := o }) h hb (by omega) rfl rfl (.inl rfl) hk
theorem ld_x {K : Value → W} {x : Spn} (h : MS w D s) (hb : b ∈ D) (hx : (s b).x = some x) (hk : K x.v w) : LoadT .any ⟨b, 0, none⟩ K w := load_any (i := 0) (h b hb).1 (by simp [ndc, hx]) hk
theorem ld_mx {K : Int → W} (h : MS w D s) (hb : b ∈ D) (hk : K (s b).mx w) : LoadT (.int .i64) ⟨b, 1, none⟩ K w := load_int (i := 1) (h b hb).1 rfl hk
theorem ld_mn {K : Int → W} (h : MS w D s) (hb : b ∈ D) (hk : K (s b).mn w) : LoadT (.int .i64) ⟨b, 2, none⟩ K w := load_int (i := 2) (h b hb).1 rfl hk
theorem ld_red {K : Bool → W} (h : MS w D s) (hb : b ∈ D) (hk : K (s b).red w) : LoadT .bool ⟨b, 5, none⟩ K w := load_bool (i := 5) (h b hb).1 rfl hk
theorem ld_id {K : Int → W} (h : MS w D s) (hb : b ∈ D) (hk : K ((((s b).x.map Spn.id).getD 0 : Nat) : Int) w) : LoadT (.int .u64) ⟨b, 6, none⟩ K w := load_int (i := 6) (h b hb).1 rfl hk
theorem ld_ch {K : Option Addr → W} {d : Nat} (h : MS w D s) (hb : b ∈ D) (hd : d < 2) (hk : K (oA (ch (s b) d)) w) : LoadT .ptr ⟨b, 3 + d, none⟩ K w := by
  have : d = 0 ∨ d = 1 := by omega
  rcases this with rfl | rfl
  · exact load_ptr (i := 3) (h b hb).1 rfl hk
  · exact load_ptr (i := 4) (h b hb).1 rfl hk
def isRed (s : St) : Option Nat → Bool
  | none => false
  | some b => (s b).red
theorem F46_spec {o : Option Nat} (h : MS w D s) (ho : ∀ b, o = some b → b ∈ D) (hk : k (.bool (isRed s o)) w) : F46 k (oA o) w := by
  unfold F46
  cases o with
  | none => exact hk
  | some b =>
    show BIf true _ _ w
    rw [BIf_true]
    show NN (some ⟨b, 0, none⟩) _ w
    rw [NN_mk, add_mk, Nat.zero_add]
    exact ld_red h (ho b rfl) hk
theorem F50_spec {d : Nat} (hd : d < 2) (hk : k (.int .i64 ((1 - d : Nat) : Int)) w) : F50 k ((d : Nat) : Int) w := by
  unfold F50
  rw [subI_i64 (by omega) (by omega), show (1 : Int) - ((d : Nat) : Int) = ((1 - d : Nat) : Int) by omega]
  exact hk
theorem F47_spec {v : Bool} (hk : k (.int .i64 (((if v then 1 else 0 : Nat)) : Int)) w) : F47 k v w := by
  unfold F47
  cases v <;> exact hk
/-- Which way to go: 1 right, 0 left. -/
def cmpS (nl il : Int) (ni ii : Nat) : Nat := if il > nl then 1 else if il < nl then 0 else if ii > ni then 1 else 0
theorem F51_spec {nl il : Int} {ni ii : Nat} (hk : k (.int .i64 ((cmpS nl il ni ii : Nat) : Int)) w) : F51 k nl il ((ni : Nat) : Int) ((ii : Nat) : Int) w := by
  unfold F51
  unfold cmpS at hk
  by_cases h1 : il > nl
  · rw [decide_eq_true h1, BIf_true]; rw [if_pos h1] at hk; exact hk
  · rw [decide_eq_false h1, BIf_false]; rw [if_neg h1] at hk
    by_cases h2 : il < nl
    · rw [decide_eq_true h2, BIf_true]; rw [if_pos h2] at hk; exact hk
    · rw [decide_eq_false h2, BIf_false]; rw [if_neg h2] at hk
      refine F47_call (F47_spec (back_int ?_))
      by_cases h3 : ii > ni
      · rw [decide_eq_true (show ((ii : Nat) : Int) > ((ni : Nat) : Int) by omega)]; rw [if_pos h3] at hk; exact hk
      · rw [decide_eq_false (show ¬ ((ii : Nat) : Int) > ((ni : Nat) : Int) by omega)]; rw [if_neg h3] at hk; exact hk
/-! ## Greatest and least ends -/
def mxO (s : St) (m : Int) : Option Nat → Int
  | none => m
  | some b => if (s b).mx > m then (s b).mx else m
def mnO (s : St) (m : Int) : Option Nat → Int
  | none => m
  | some b => if (s b).mn < m then (s b).mn else m
def mxOf (s : St) (n : Nn) (x : Spn) : Int := mxO s (mxO s x.hi n.c0) n.c1
def mnOf (s : St) (n : Nn) (x : Spn) : Int := mnO s (mnO s x.lo n.c0) n.c1
end
end Go.Proofs.Ythapmkjmfkmnoaa.E
