/-
  Range trees in memory: nodes as a state; the search in a list of nodes.
-/
import Derived.Test.YtfokodpnoiilbaaR0
import Derived.Test.YtfokodpnoiilbaaFnsF
import Derived.Test.YtfokodpnoiilbaaRec
import Derived.Test.YtfokodpnoiilbaaLists
import Derived.Test.YtfokodpnoiilbaaArith
import Derived.Test.YtfokodpnoiilbaaBits
import Derived.Shelf.Abstract
namespace Go.Proofs.Ytfokodpnoiilbaa.E
open Go
set_option linter.unusedSimpArgs false
set_option linter.unusedVariables false
set_option maxRecDepth 100000
set_option maxHeartbeats 8000000

/-- An entry: its place (and where it is read), its number. -/
structure Dtn where
  p : Option Addr
  c : Nat
  pos : List Int
  val : Int
def Dtn.a (x : Dtn) : Value := .agg #[.slice x.p x.pos.length x.c, .int .i64 x.val]
def Dtn.v (x : Dtn) : Value := .iface 192 x.a
def dtn0 : Dtn := ⟨none, 0, [], 0⟩
def In64K : Rk Int := ⟨2, 1, fun _ g x => g 0 = some (.int .i64 x), [], fun h h0 => by rw [← h 0 (by decide)]; exact h0, fun _ _ h => h⟩
def DtOk (w : World) (x : Dtn) : Prop := Sl In64K w x.p x.pos ∧ x.pos.length < 1000
structure Rd where
  v : Int
  e : Option Dtn
  p : Option Addr
  c : Nat
  kids : List Nat
abbrev RSt := Nat → Rd
def rdE (o : Option Dtn) : Value := (o.map Dtn.v).getD .nilIface
def rdc (n : Rd) : List Value := [.int .i64 n.v, rdE n.e, .slice n.p n.kids.length n.c]
def ptrs (l : List Nat) : List Value := l.map fun b => .pointer (some ⟨b, 0, none⟩)
theorem ptrs_get (l : List Nat) (i : Nat) : (ptrs l)[i]? = l[i]?.map fun b => .pointer (some ⟨b, 0, none⟩) := List.getElem?_map
@[simp] theorem ptrs_length (l : List Nat) : (ptrs l).length = l.length := List.length_map _
theorem ptrs_append (a b : List Nat) : ptrs (a ++ b) = ptrs a ++ ptrs b := List.map_append ..
def upR (s : RSt) (b : Nat) (n : Rd) : RSt := fun x => if x = b then n else s x
theorem upR_same (s : RSt) (b : Nat) (n : Rd) : upR s b n b = n := by simp [upR]
theorem upR_ne {s : RSt} {b : Nat} {n : Rd} {x : Nat} (h : x ≠ b) : upR s b n x = s x := by simp [upR, h]
/-- The tree's own block: its list, how many entries, how many dimensions, a path that is not looked at. -/
def topc (n : Rd) (num dm : Nat) (pp : Option Addr) (pl pc : Nat) : List Value := [.slice n.p n.kids.length n.c, .int .u64 ((num : Nat) : Int), .int .u64 ((dm : Nat) : Int), .slice pp pl pc]
structure RM (w : World) (base tb num dm : Nat) (pp : Option Addr) (pl pc : Nat) (D : List Nat) (s : RSt) : Prop where
  nodes : ∀ b ∈ D, Blk w b 224 (rdc (s b))
  top : Blk w tb 188 (topc (s tb) num dm pp pl pc)
  own : ∀ b, b = tb ∨ b ∈ D → Own w 221 (s b).p (s b).kids.length (s b).c (ptrs (s b).kids)
  dj : ∀ b b', (b = tb ∨ b ∈ D) → (b' = tb ∨ b' ∈ D) → b ≠ b' → ∀ x, bl (s b).p x → ¬ bl (s b').p x
  kd : ∀ b, b = tb ∨ b ∈ D → ∀ c ∈ (s b).kids, c ∈ D
  ok : ∀ b ∈ D, ∀ x, (s b).e = some x → DtOk w x
  lo : ∀ b, b = tb ∨ b ∈ D → base ≤ b ∧ ∀ y, bl (s b).p y → base ≤ y
/-- Where a list lies. -/
def la (tb b : Nat) : Addr := if b = tb then ⟨tb, 0, none⟩ else ⟨b, 2, none⟩
def absN : (n : Nat) → RSt → Nat → ON (Option Dtn) n
  | 0, s, b => (s b).e
  | n + 1, s, b => ((s b).kids.map fun c => ((s c).v, absN n s c) : List (Int × ON (Option Dtn) n))
def rch : (n : Nat) → RSt → Nat → List Nat
  | 0, _, _ => []
  | n + 1, s, b => (s b).kids.flatMap fun c => c :: rch n s c
theorem absN_congr : ∀ (n : Nat) {s s' : RSt} {b : Nat}, s' b = s b → (∀ y ∈ rch n s b, s' y = s y) → absN n s' b = absN n s b ∧ rch n s' b = rch n s b
  | 0, s, s', b, h, _ => ⟨by unfold absN; rw [h], rfl⟩
  | n + 1, s, s', b, h, hr => by
    have one : ∀ c ∈ (s b).kids, s' c = s c ∧ absN n s' c = absN n s c ∧ rch n s' c = rch n s c := fun c hc => by
      have h1 : s' c = s c := hr c (List.mem_flatMap.2 ⟨c, hc, List.mem_cons_self⟩)
      have := absN_congr n (s := s) (s' := s') (b := c) h1 fun y hy => hr y (List.mem_flatMap.2 ⟨c, hc, List.mem_cons_of_mem _ hy⟩)
      exact ⟨h1, this⟩
    constructor
    · show (s' b).kids.map _ = (s b).kids.map _
      rw [h]
      exact List.map_congr_left fun c hc => by rw [(one c hc).1, (one c hc).2.1]
    · show (s' b).kids.flatMap _ = (s b).kids.flatMap _
      rw [h]
      have : ∀ l : List Nat, (∀ c ∈ l, rch n s' c = rch n s c) → l.flatMap (fun c => c :: rch n s' c) = l.flatMap fun c => c :: rch n s c := fun l => by
        induction l with
        | nil => intro _; rfl
        | cons a l ih =>
          intro hl
          rw [List.flatMap_cons, List.flatMap_cons, hl a List.mem_cons_self, ih fun c hc => hl c (List.mem_cons_of_mem _ hc)]
      exact this _ fun c hc => (one c hc).2.2
/-! ## Frames -/
theorem DtOk.fr {w w' : World} {S : Nat → Prop} {x : Dtn} (h : DtOk w x) (f : Fr S w w') (hS : ∀ b u us, S b → Blk w b u us → u ≠ 2) : DtOk w' x := by
  refine ⟨?_, h.2⟩
  rcases h.1 with h | ⟨q, o, us, e, hB, hR⟩
  · exact .inl h
  · exact .inr ⟨q, o, us, e, hB.fr f fun hs => hS _ _ _ hs hB rfl, hR⟩
theorem DtOk.fr0 {w w' : World} {x : Dtn} (h : DtOk w x) (f : Fr (fun _ => False) w w') : DtOk w' x := h.fr f fun _ _ _ h => h.elim
theorem RM.fr {w w' : World} {S : Nat → Prop} {base tb num dm pl pc : Nat} {pp : Option Addr} {D : List Nat} {s : RSt} (h : RM w base tb num dm pp pl pc D s) (f : Fr S w w') (hS : ∀ b u us, S b → Blk w b u us → u ≠ 224 ∧ u ≠ 188 ∧ u ≠ 221 ∧ u ≠ 2) : RM w' base tb num dm pp pl pc D s :=
  ⟨fun b hb => (h.nodes b hb).fr f fun hs => (hS _ _ _ hs (h.nodes b hb)).1 rfl, h.top.fr f fun hs => (hS _ _ _ hs h.top).2.1 rfl, fun b hb => (h.own b hb).fr f fun x hx hs => by
    obtain ⟨us, hu⟩ := (h.own b hb).blk hx
    exact (hS _ _ _ hs hu).2.2.1 rfl, h.dj, h.kd, fun b hb x hx => (h.ok b hb x hx).fr f fun b u us hs hu => (hS b u us hs hu).2.2.2, h.lo⟩
theorem RM.fr0 {w w' : World} {base tb num dm pl pc : Nat} {pp : Option Addr} {D : List Nat} {s : RSt} (h : RM w base tb num dm pp pl pc D s) (f : Fr (fun _ => False) w w') : RM w' base tb num dm pp pl pc D s := h.fr f fun _ _ _ h => h.elim
theorem RM.tbD {w : World} {base tb num dm pl pc : Nat} {pp : Option Addr} {D : List Nat} {s : RSt} (h : RM w base tb num dm pp pl pc D s) : tb ∉ D := fun hb => by
  have := ((h.nodes tb hb).unique h.top).1; simp at this
/-- The list is read. -/
theorem RM.cell {w : World} {base tb num dm pl pc : Nat} {pp : Option Addr} {D : List Nat} {s : RSt} (h : RM w base tb num dm pp pl pc D s) {b : Nat} (hb : b = tb ∨ b ∈ D) {f : Option Addr → Nat → Nat → W} (hk : f (s b).p (s b).kids.length (s b).c w) : LoadT .slice (la tb b) f w := by
  unfold la
  rcases hb with rfl | hb
  · rw [if_pos rfl]
    exact load_slice (i := 0) h.top rfl hk
  · have hne : b ≠ tb := fun e => h.tbD (e ▸ hb)
    rw [if_neg hne]
    exact load_slice (i := 2) (h.nodes b hb) rfl hk
theorem ent138 : ∀ args w, (callFunc 138 args).run Try.prog w = .ok (.enter 138 args) w := enters_of Try.func138 (by kernel_rfl) rfl
theorem callV_enter {P : Program} {f : FuncId} {args caps : Array Value} {w : World} (h : ∀ args w, (callFunc f args).run P w = .ok (.enter f args) w) :
    (callV (.func (.func f) #[] caps) args).run P w = .ok (.enter f (args ++ caps)) w := by
  have e := h (args ++ caps) w
  simp [callV, Deferred.ofValue, invoke, e]
theorem NextT_enterR {P : Program} {s : Sem Next} {r : RTy} {f : Fn W r.leaves} {g : FuncId} {args : Array Value} {w w' : World} (h : s.run P w = .ok (.enter g args) w') (hk : Calls P g args w' (Back r f)) : NextT P s r f w := by
  unfold NextT; rw [h]; exact hk
/-- How many keys are below one. -/
def lbd (v : Int) : List Int → Nat
  | [] => 0
  | x :: l => if x < v then lbd v l + 1 else 0
theorem lbd_le (v : Int) : ∀ l : List Int, lbd v l ≤ l.length
  | [] => Nat.le_refl _
  | x :: l => by unfold lbd; split <;> simp [lbd_le v l]
theorem lbd_of {v : Int} : ∀ {l : List Int} {a : Nat}, a ≤ l.length → (∀ j x, l[j]? = some x → j < a → x < v) → (∀ j x, l[j]? = some x → a ≤ j → ¬ x < v) → lbd v l = a
  | [], a, ha, _, _ => by have : a = 0 := by simpa using ha
                          rw [this]; rfl
  | x :: l, 0, _, _, h => by
    have := h 0 x rfl (Nat.le_refl _)
    unfold lbd; rw [if_neg this]
  | x :: l, a + 1, ha, h1, h2 => by
    have hx := h1 0 x rfl (Nat.succ_pos _)
    unfold lbd; rw [if_pos hx]
    rw [lbd_of (l := l) (a := a) (by simpa using ha) (fun j y hj hja => h1 (j + 1) y hj (by omega)) fun j y hj hja => h2 (j + 1) y hj (by omega)]
theorem srt_get {l : List Int} (s : l.Pairwise (· < ·)) {i j : Nat} {x y : Int} (hx : l[i]? = some x) (hy : l[j]? = some y) (h : i < j) : x < y := by
  obtain ⟨h1, rfl⟩ := List.getElem?_eq_some_iff.1 hx
  obtain ⟨h2, rfl⟩ := List.getElem?_eq_some_iff.1 hy
  exact List.pairwise_iff_getElem.1 s i j h1 h2 h
section
variable {w : World} {k : Value → W} {base tb num dm pl pc : Nat} {pp : Option Addr} {D : List Nat} {s : RSt} {b : Nat}
theorem shr_half {a b : Nat} (h : a + b < 1000000) : IntKind.wrap .i64 (shrI .u64 (IntKind.wrap .u64 (addI .i64 ((a : Nat) : Int) ((b : Nat) : Int))) 1) = (((a + b) / 2 : Nat) : Int) := by
  rw [addI_i64 (by omega) (by omega), wrap_u64 (by omega) (by omega), show ((a : Nat) : Int) + ((b : Nat) : Int) = ((a + b : Nat) : Int) by omega, shr_nat .u64 (j := 1) (by decide), wrap_i64 (by omega) (by omega)]
/-- The place of a key in a list of nodes. -/
theorem F134_spec {value : Int} (h : RM w base tb num dm pp pl pc D s) (hb : b = tb ∨ b ∈ D) (hs : ((s b).kids.map fun c => (s c).v).Pairwise (· < ·)) (hl : (s b).kids.length < 100000)
    (hk : ∀ w', Fr (fun _ => False) w w' → k (.int .i64 ((lbd value ((s b).kids.map fun c => (s c).v) : Nat) : Int)) w') : F134 k (s b).p (s b).kids.length (s b).c value w := by
  have hO := h.own b hb
  generalize hV : ((s b).kids.map fun c => (s c).v) = V at hs hk
  have hVl : V.length = (s b).kids.length := by rw [← hV, List.length_map]
  unfold F134
  refine new_intro fun n1 w1 e1 b1 f1 z1 => new_intro fun n2 w2 e2 b2 f2 z2 => ?_
  have b12 := b1.fr f2 id
  have f02 := f1.trans f2 fun _ h => h.elim
  refine load_slice (i := 0) b12 rfl ?_
  refine F137_call ?_
  unfold F137
  refine F137_L1_rule (I := fun f i j w' => f = .func (.func 138) #[] #[.pointer (some ⟨n1, 0, none⟩), .pointer (some ⟨n2, 0, none⟩)] ∧ Fr (fun _ => False) w2 w' ∧ ∃ a b : Nat, i = ((a : Nat) : Int) ∧ j = ((b : Nat) : Int) ∧ a ≤ b ∧ b ≤ V.length ∧ (∀ (j : Nat) q, V[j]? = some q → j < a → q < value) ∧ (∀ (j : Nat) q, V[j]? = some q → b ≤ j → ¬ q < value))
    (μ := fun f i j w' => (j - i).toNat) ?_ ⟨rfl, Fr.refl _ _, 0, V.length, rfl, by rw [hVl], Nat.zero_le _, Nat.le_refl _, fun _ _ _ h => by omega, fun j q hj h => by have := (List.getElem?_eq_some_iff.1 hj).1; omega⟩
  rintro _ _ _ w3 ⟨rfl, f3, a, b', rfl, rfl, hab, hb', h1, h2⟩
  unfold F137_L1
  by_cases hlt : a < b'
  · rw [decide_eq_true (show ((a : Nat) : Int) < ((b' : Nat) : Int) by omega), BIf_true]
    refine bind_intro ?_
    rw [shr_half (by omega)]
    generalize hmm : (a + b') / 2 = m at *
    have hma : a ≤ m := by omega
    have hmb : m < b' := by omega
    have hq : V[m]? = some (V[m]'(by omega)) := List.getElem?_eq_getElem (by omega)
    generalize V[m]'(by omega) = q at hq
    refine NextT_enterR (callV_enter ent138) (F138_calls ?_)
    unfold F138
    refine drw_intro fun w4 f4 z4 => ?_
    have f24 := f3.trans f4 fun _ h => h.elim
    have f04 := f02.trans f24 fun _ h => h.elim
    refine load_slice (i := 0) (b12.fr f24 id) rfl ?_
    have h4 := h.fr0 f04
    have hO4 := h4.own b hb
    obtain ⟨qb, rest, hp, hB, _, _⟩ := hO4.get (by omega)
    have hc : (s b).kids[m]? = some ((s b).kids[m]'(by omega)) := List.getElem?_eq_getElem (by omega)
    generalize hcc : (s b).kids[m]'(by omega) = c at hc
    have hcD : c ∈ D := h4.kd b hb c (List.mem_of_getElem? hc)
    have hqc : (s c).v = q := by
      rw [← hV, List.getElem?_map, hc] at hq
      exact Option.some.inj hq
    rw [hp, NN_mk, Req_iff, Int.toNat_natCast, add_mk, Nat.zero_add]
    refine ⟨by omega, load_ptr hB (by rw [List.getElem?_append_left (by simp; omega), ptrs_get, hc]; rfl) ?_⟩
    rw [NN_mk]
    refine load_int (i := 0) (h4.nodes c hcD) rfl (load_int (i := 0) (b2.fr f24 id) rfl (back_bool ?_))
    rw [hqc]
    by_cases hqx : q < value
    · rw [decide_eq_false (show ¬ q ≥ value by omega), Bool.not_false, BIf_true, addI_i64 (by omega) (by omega)]
      refine ⟨⟨rfl, f24, m + 1, b', by omega, rfl, hmb, hb', fun j r hj hjm => ?_, h2⟩, by omega⟩
      by_cases e : j = m
      · rw [e, hq] at hj; cases hj; exact hqx
      · have := srt_get hs hj hq (by omega); omega
    · rw [decide_eq_true (show q ≥ value by omega), Bool.not_true, BIf_false]
      refine ⟨⟨rfl, f24, a, m, rfl, rfl, hma, by omega, h1, fun j r hj hjm => ?_⟩, by omega⟩
      by_cases e : j = m
      · rw [e, hq] at hj; cases hj; exact hqx
      · have := srt_get hs hq hj (by omega); omega
  · rw [decide_eq_false (show ¬ ((a : Nat) : Int) < ((b' : Nat) : Int) by omega), BIf_false]
    have : a = b' := by omega
    subst this
    have e := lbd_of hb' h1 h2
    refine back_int ?_
    rw [← e]
    exact hk w3 (f02.trans f3 fun _ h => h.elim)
end
end Go.Proofs.Ytfokodpnoiilbaa.E
