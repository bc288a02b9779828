/-
  Balanced trees in memory; the small functions on nodes.
-/
import Derived.Test.YtokejbejoegnnaaAvP
import Derived.Test.YtokejbejoegnnaaBlk
import Derived.Test.YtokejbejoegnnaaArith
import Derived.Test.YtokejbejoegnnaaLists
import Derived.Test.YtokejbejoegnnaaFnsB
import Derived.Test.YtokejbejoegnnaaFnsC
namespace Go.Proofs.Ytokejbejoegnnaa.E
open Go
set_option linter.unusedSimpArgs false
set_option linter.unusedVariables false
set_option maxRecDepth 100000
set_option maxHeartbeats 2000000

def encE (q : It2) : Value := .iface 95 (.agg #[.int .i64 q.1, .int .i64 q.2])
theorem methE (a b : It2) (w : World) : (callMethod (encE a) "Compare" [encE b].toArray).run Try.prog w = .ok (.enter 98 #[.agg #[.int .i64 a.1, .int .i64 a.2], encE b]) w := by kernel_rfl
theorem NextT_enter {P : Program} {s : Sem Next} {r : RTy} {f : Fn W r.leaves} {g : FuncId} {args : Array Value} {w w' : World} (h : s.run P w = .ok (.enter g args) w') (hk : Calls P g args w' (Back r f)) : NextT P s r f w := by
  unfold NextT; rw [h]; exact hk
/-- How keys lie to each other, as the comparison tells it. -/
def cmpI (a b : Int) : Int := if a < b then -1 else if b < a then 1 else 0
theorem F99_spec {k : Value → W} {w : World} {a b : Int} (hk : k (.int .i64 (cmpI a b)) w) : F99 k a b w := by
  unfold F99
  unfold cmpI at hk
  refine BIf_intro (fun h => ?_) fun h => BIf_intro (fun h' => ?_) fun h' => ?_
  · have h := of_decide_eq_true h; rw [if_pos h] at hk; exact hk
  · have h := of_decide_eq_false h; have h' := of_decide_eq_true h'; rw [if_neg h, if_pos h'] at hk; exact hk
  · have h := of_decide_eq_false h; have h' := of_decide_eq_false h'; rw [if_neg h, if_neg h'] at hk; exact hk
theorem cmpE {a b : It2} {f : Int → W} {w : World} (hk : ∀ w', Fr (fun _ => False) w w' → f (cmpI (kx a) (kx b)) w') : NextT Try.prog (callMethod (encE a) "Compare" [encE b].toArray) (.s (.one (.int .i64))) f w := by
  refine NextT_enter (methE a b w) ?_
  refine F98_calls ?_
  unfold F98
  refine new_intro fun n w1 e1 b1 f1 z1 => ?_
  refine drw_intro fun w2 f2 z2 => ?_
  refine load_int (b1.fr f2 id) rfl ?_
  refine ⟨(b.1, b.2, ()), rfl, ?_⟩
  refine F99_call (F99_spec (back_int (back_int ?_)))
  exact hk w2 (f1.trans f2 fun _ h => h.elim)

/-! ## Nodes -/
def Tr.ptr : Tr → Option Addr
  | .nil => none
  | .nd b _ _ _ _ => some ⟨b, 0, none⟩
def sd (d : Bool) : Nat := bif d then 1 else 0
def dI (d : Bool) : Int := bif d then 1 else 0
def ncell (bal : Int) (l r : Option Addr) (e : It2) : List Value := [.int .i8 bal, .pointer l, .pointer r, encE e]
def ncl (d : Bool) (bal : Int) (e : It2) (c o : Option Addr) : List Value := bif d then ncell bal o c e else ncell bal c o e
theorem ptr_nd' (d : Bool) (b : Nat) (bal : Int) (e : It2) (c o : Tr) : (Tr.nd' d b bal e c o).ptr = some ⟨b, 0, none⟩ := by cases d <;> rfl
def TrM (w : World) : Tr → Prop
  | .nil => True
  | .nd b bal l e r => Blk w b 119 (ncell bal l.ptr r.ptr e) ∧ TrM w l ∧ TrM w r
theorem trm_nd' {w : World} (d : Bool) (b : Nat) (bal : Int) (e : It2) (c o : Tr) : TrM w (Tr.nd' d b bal e c o) ↔ Blk w b 119 (ncl d bal e c.ptr o.ptr) ∧ TrM w c ∧ TrM w o := by
  cases d
  · exact Iff.rfl
  · exact ⟨fun ⟨a, b, c⟩ => ⟨a, c, b⟩, fun ⟨a, b, c⟩ => ⟨a, c, b⟩⟩
theorem TrM.fr {S : Nat → Prop} {w w' : World} (f : Fr S w w') : ∀ {t : Tr}, TrM w t → (∀ b ∈ t.bs, ¬ S b) → TrM w' t
  | .nil, _, _ => trivial
  | .nd b bal l e r, ⟨h1, h2, h3⟩, hS => by
    simp only [Tr.bs, List.mem_cons, List.mem_append] at hS
    exact ⟨h1.fr f (hS b (.inl rfl)), TrM.fr f h2 fun x hx => hS x (.inr (.inl hx)), TrM.fr f h3 fun x hx => hS x (.inr (.inr hx))⟩
theorem TrM.fr0 {w w' : World} (f : Fr (fun _ => False) w w') {t : Tr} (h : TrM w t) : TrM w' t := h.fr f fun _ _ h => h
theorem TrM.lt {w : World} : ∀ {t : Tr}, TrM w t → ∀ b ∈ t.bs, b < w.heap.size
  | .nil, _, b, h => by cases h
  | .nd b bal l e r, ⟨h1, h2, h3⟩, x, hx => by
    simp only [Tr.bs, List.mem_cons, List.mem_append] at hx
    rcases hx with rfl | hx | hx
    · exact h1.lt
    · exact TrM.lt h2 x hx
    · exact TrM.lt h3 x hx
theorem ncl_len (d : Bool) (bal : Int) (e : It2) (c o : Option Addr) : (ncl d bal e c o).length = 4 := by cases d <;> rfl
theorem ncl_bal (d : Bool) (bal : Int) (e : It2) (c o : Option Addr) : (ncl d bal e c o)[0]? = some (.int .i8 bal) := by cases d <;> rfl
theorem ncl_c (d : Bool) (bal : Int) (e : It2) (c o : Option Addr) : (ncl d bal e c o)[1 + sd d]? = some (.pointer c) := by cases d <;> rfl
theorem ncl_o (d : Bool) (bal : Int) (e : It2) (c o : Option Addr) : (ncl d bal e c o)[1 + sd (!d)]? = some (.pointer o) := by cases d <;> rfl
theorem ncl_e (d : Bool) (bal : Int) (e : It2) (c o : Option Addr) : (ncl d bal e c o)[3]? = some (encE e) := by cases d <;> rfl
theorem ncl_set_bal (d : Bool) (bal v : Int) (e : It2) (c o : Option Addr) : (ncl d bal e c o).set 0 (.int .i8 v) = ncl d v e c o := by cases d <;> rfl
theorem ncl_set_c (d : Bool) (bal : Int) (e : It2) (c o x : Option Addr) : (ncl d bal e c o).set (1 + sd d) (.pointer x) = ncl d bal e x o := by cases d <;> rfl
theorem ncl_set_o (d : Bool) (bal : Int) (e : It2) (c o x : Option Addr) : (ncl d bal e c o).set (1 + sd (!d)) (.pointer x) = ncl d bal e c x := by cases d <;> rfl
theorem ncl_set_e (d : Bool) (bal : Int) (e x : It2) (c o : Option Addr) : (ncl d bal e c o).set 3 (encE x) = ncl d bal x c o := by cases d <;> rfl
theorem ncl_turn (d : Bool) (bal : Int) (e : It2) (c o : Option Addr) : ncl (!d) bal e c o = ncl d bal e o c := by cases d <;> rfl
theorem adr (b : Nat) (d : Bool) : (((⟨b, 0, none⟩ : Addr).add 1).add (dI d).toNat) = ⟨b, 1 + sd d, none⟩ := by cases d <;> rfl
theorem dI_ok (d : Bool) : 0 ≤ dI d ∧ dI d < (2 : Int) := by cases d <;> decide
theorem opp (d : Bool) : subI .i64 1 (dI d) = dI (!d) := by cases d <;> rfl
theorem opp' (d : Bool) : subI .i64 1 (dI (!d)) = dI d := by cases d <;> rfl
theorem sd_lt (d : Bool) : 1 + sd d < 4 := by cases d <;> decide

/-- rotate: the child at side d comes up. -/
theorem F79_spec {k : Value → W} {w : World} {d : Bool} {b c : Nat} {x y : Int} {e e2 : It2} {M R o : Option Addr} (hP : Blk w b 119 (ncl d x e (some ⟨c, 0, none⟩) o)) (hC : Blk w c 119 (ncl (!d) y e2 M R)) (hne : b ≠ c)
    (hk : ∀ w', Blk w' b 119 (ncl d x e M o) → Blk w' c 119 (ncl (!d) y e2 (some ⟨b, 0, none⟩) R) → Fr (fun z => z = b ∨ z = c) w w' → k (.pointer (some ⟨c, 0, none⟩)) w') : F79 k (some ⟨b, 0, none⟩) (dI (!d)) w := by
  unfold F79
  refine F80_call ?_
  unfold F80
  refine back_int ?_
  rw [opp']
  try simp only [NN_mk, adr]
  refine ⟨dI_ok d, load_ptr hP (ncl_c ..) ?_⟩
  refine drw_intro fun w1 f1 z1 => ?_
  have P1 := hP.fr f1 id
  have C1 := hC.fr f1 id
  try simp only [NN_mk, adr]
  refine ⟨dI_ok (!d), load_ptr C1 (ncl_c ..) ?_⟩
  refine ⟨dI_ok d, store_intro P1 (by rw [ncl_len]; exact sd_lt d) rfl fun w2 b2 f2 z2 => ?_⟩
  rw [ncl_set_c] at b2
  have C2 := C1.fr f2 fun h => hne h.symm
  try simp only [NN_mk, adr]
  refine ⟨dI_ok (!d), store_intro C2 (by rw [ncl_len]; exact sd_lt (!d)) rfl fun w3 b3 f3 z3 => ?_⟩
  rw [ncl_set_c] at b3
  have b23 := b2.fr f3 fun h => hne h
  exact hk w3 b23 b3 (((f1.mono fun _ h => h.elim).trans f2 fun z h => .inl (.inl h)).trans f3 fun z h => .inl (.inr h))
/-- doubleRotate: the child's child at the other side comes up. -/
theorem F82_spec {k : Value → W} {w : World} {d : Bool} {b c g : Nat} {x y z : Int} {e e2 e3 : It2} {X Y o o2 : Option Addr} (hP : Blk w b 119 (ncl d x e (some ⟨c, 0, none⟩) o)) (hC : Blk w c 119 (ncl (!d) y e2 (some ⟨g, 0, none⟩) o2)) (hG : Blk w g 119 (ncl d z e3 X Y)) (h1 : b ≠ c) (h2 : b ≠ g) (h3 : c ≠ g)
    (hk : ∀ w', Blk w' b 119 (ncl d x e Y o) → Blk w' c 119 (ncl (!d) y e2 X o2) → Blk w' g 119 (ncl (!d) z e3 (some ⟨b, 0, none⟩) (some ⟨c, 0, none⟩)) → Fr (fun v => v = b ∨ v = c ∨ v = g) w w' → k (.pointer (some ⟨g, 0, none⟩)) w') : F82 k (some ⟨b, 0, none⟩) (dI (!d)) w := by
  unfold F82
  refine F80_call ?_
  unfold F80
  refine back_int ?_
  rw [opp']
  refine drw_intro fun w1 f1 z1 => ?_
  have P1 := hP.fr f1 id
  have C1 := hC.fr f1 id
  have G1 := hG.fr f1 id
  try simp only [NN_mk, adr]
  refine ⟨dI_ok d, load_ptr P1 (ncl_c ..) ?_⟩
  have G1' : Blk w1 g 119 (ncl (!(!d)) z e3 X Y) := by rw [Bool.not_not]; exact G1
  refine F79_call ?_
  have e0 : dI d = dI (!(!d)) := by rw [Bool.not_not]
  rw [e0]
  refine F79_spec (d := !d) C1 G1' h3 fun w2 C2 G2 f2 => back_ptr ?_
  rw [Bool.not_not] at *
  have P2 := P1.fr f2 fun h => by rcases h with h | h; exact h1 h; exact h2 h
  try rw [adr]
  refine ⟨dI_ok d, store_intro P2 (by rw [ncl_len]; exact sd_lt d) rfl fun w3 P3 f3 z3 => ?_⟩
  rw [ncl_set_c] at P3
  have G3 := G2.fr f3 fun h => h2 h.symm
  have C3 := C2.fr f3 fun h => h1 h.symm
  rw [← ncl_turn] at G3
  refine F79_call (F79_spec P3 G3 h2 fun w4 P4 G4 f4 => back_ptr ?_)
  have C4 := C3.fr f4 fun h => by rcases h with h | h; exact h1 h.symm; exact h3 h
  exact hk w4 P4 C4 G4 ((((f1.mono fun _ h => h.elim).trans f2 fun v h => .inl (.inr h)).trans f3 fun v h => .inl (.inl h)).trans f4 fun v h => .inl (h.elim .inl fun h => .inr (.inr h)))
end Go.Proofs.Ytokejbejoegnnaa.E
