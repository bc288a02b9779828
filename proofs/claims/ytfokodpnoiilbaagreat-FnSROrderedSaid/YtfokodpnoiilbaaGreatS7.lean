/-
  Skip lists of items: insert, get, delete of several; a new list; iterators.
-/
import Derived.Test.YtfokodpnoiilbaaGreatS6
namespace Go.Proofs.YtfokodpnoiilbaaGreat.E
open Go
set_option linter.unusedSimpArgs false
set_option linter.unusedVariables false
set_option maxRecDepth 100000
set_option maxHeartbeats 4000000

abbrev Itm := Int × Int
def keyL : List Value → Int
  | Value.int _ n :: _ => n
  | _ => 0
def keyE : Value → Int
  | Value.iface _ (Value.agg a) => keyL a.toList
  | _ => 0
/-! ## Comparing -/
theorem NextT_enter {P : Program} {s : Sem Next} {r : RTy} {f : Fn W r.leaves} {g : FuncId} {args : Array Value} {w w' : World} (h : s.run P w = .ok (.enter g args) w') (hk : Calls P g args w' (Back r f)) : NextT P s r f w := by
  unfold NextT; rw [h]; exact hk
/-! ## Plain -/
def loI (k : Int) (l : List Itm) : List Itm := l.filter fun x => decide (x.1 < k)
def hiI (k : Int) (l : List Itm) : List Itm := l.filter fun x => !decide (x.1 < k)
def gtI (k : Int) (l : List Itm) : List Itm := l.filter fun x => decide (k < x.1)
def putI (l : List Itm) (x : Itm) : List Itm := loI x.1 l ++ x :: gtI x.1 l
def delI (l : List Itm) (x : Itm) : List Itm := loI x.1 l ++ gtI x.1 l
def findI (k : Int) (l : List Itm) : Option Itm := l.find? fun x => decide (x.1 = k)
theorem len_put (l : List Itm) (x : Itm) : (putI l x).length ≤ l.length + 1 := by
  have h : ∀ (l : List Itm), (loI x.1 l).length + (gtI x.1 l).length ≤ l.length := fun l => by
    induction l with
    | nil => simp [loI, gtI]
    | cons a l ih =>
      by_cases h1 : a.1 < x.1
      · have e1 : loI x.1 (a :: l) = a :: loI x.1 l := by simp [loI, h1]
        have e2 : gtI x.1 (a :: l) = gtI x.1 l := by simp only [gtI]; rw [List.filter_cons_of_neg]; simp; omega
        rw [e1, e2]; simp only [List.length_cons]; omega
      · have e1 : loI x.1 (a :: l) = loI x.1 l := by simp only [loI]; rw [List.filter_cons_of_neg]; simpa using h1
        rw [e1]
        by_cases h2 : x.1 < a.1
        · have e2 : gtI x.1 (a :: l) = a :: gtI x.1 l := by simp [gtI, h2]
          rw [e2]; simp only [List.length_cons]; omega
        · have e2 : gtI x.1 (a :: l) = gtI x.1 l := by simp only [gtI]; rw [List.filter_cons_of_neg]; simpa using h2
          rw [e2]; simp only [List.length_cons]; omega
  have := h l
  unfold putI; rw [List.length_append, List.length_cons]; omega
theorem len_del (l : List Itm) (x : Itm) : (delI l x).length ≤ l.length := by
  have := len_put l x
  unfold putI at this
  unfold delI
  rw [List.length_append, List.length_cons] at this
  rw [List.length_append]; omega
/-- Several, one by one: what is left, what was there. -/
def runS (s : List Itm → Itm → List Itm) (l : List Itm) (xs : List Itm) : List Itm := xs.foldl s l
def runO (s : List Itm → Itm → List Itm) : List Itm → List Itm → List (Option Itm)
  | _, [] => []
  | l, x :: xs => findI x.1 l :: runO s (s l x) xs
theorem runS_snoc (s : List Itm → Itm → List Itm) (l xs : List Itm) (x : Itm) : runS s l (xs ++ [x]) = s (runS s l xs) x := by unfold runS; rw [List.foldl_append]; rfl
theorem runO_snoc (s : List Itm → Itm → List Itm) : ∀ (l xs : List Itm) (x : Itm), runO s l (xs ++ [x]) = runO s l xs ++ [findI x.1 (runS s l xs)]
  | l, [], x => rfl
  | l, a :: xs, x => by show _ :: runO s _ (xs ++ [x]) = _ :: _; rw [runO_snoc s]; rfl
theorem runO_length (s : List Itm → Itm → List Itm) : ∀ (l xs : List Itm), (runO s l xs).length = xs.length
  | l, [] => rfl
  | l, a :: xs => by show (runO s _ xs).length + 1 = _; rw [runO_length s]; rfl
theorem runS_len (s : List Itm → Itm → List Itm) (hs : ∀ l x, (s l x).length ≤ l.length + 1) : ∀ (xs l : List Itm), (runS s l xs).length ≤ l.length + xs.length
  | [], l => Nat.le_refl _
  | x :: xs, l => by
    have h1 := runS_len s hs xs (s l x)
    have h2 := hs l x
    show (runS s (s l x) xs).length ≤ _
    simp only [List.length_cons]; omega

/-! ## Slices of elements -/
theorem und109 : Tryz.prog.underlying 140 = some (.slice 115) := by kernel_rfl
theorem und110 : Tryz.prog.underlying 141 = some (.slice 115) := by kernel_rfl
theorem inf114 : ∃ i, Tryz.prog.info? 115 = some i ∧ i.size = 1 ∧ i.zero = some .nilIface ∧ i.bytes ≤ 4096 := ⟨_, rfl, by kernel_rfl, by kernel_rfl, Nat.le_of_ble_eq_true (by kernel_rfl)⟩
theorem take_snoc {α : Type} {l : List α} {i : Nat} {x : α} (h : l[i]? = some x) : l.take (i + 1) = l.take i ++ [x] := by
  rw [List.take_add_one, h]; rfl
theorem add64 {a : Nat} (h : a < 4294967296) : addI .i64 ((a : Nat) : Int) 1 = ((a + 1 : Nat) : Int) := (wrap_i64 (by omega) (by omega)).trans (by omega)
theorem own_not {w : World} {S : Nat → Prop} {e : TypeId} {p : Option Addr} {l c : Nat} {vs : List Value} (h : Own w e p l c vs) {ts : List TypeId} (hT : Tys S w ts) (ht : e ∉ ts) : ∀ b, bl p b → ¬ S b := by
  rintro b ⟨a, rfl, rfl⟩ hS
  rcases h.2 with ⟨h, _⟩ | ⟨q, rest, h, hb, _⟩
  · cases h
  · cases h; exact ht (hT _ _ _ hS hb)
theorem own_ty {w : World} {e : TypeId} {p : Option Addr} {l c : Nat} {vs : List Value} (h : Own w e p l c vs) : Tys (fun b => bl p b) w [e] := by
  rintro b u us ⟨a, rfl, rfl⟩ hu
  rcases h.2 with ⟨h, _⟩ | ⟨q, rest, h, hb, _⟩
  · cases h
  · cases h; rw [(hu.unique hb).1]; exact List.mem_cons_self ..
theorem SK.own_ne {w : World} {sl : Nat} {F : Nat → Prop} {vs : List Value} {key : Value → Int} (K : SK key w sl F vs) {p : Option Addr} {l c : Nat} {us : List Value} (h : Own w 115 p l c us) : ∀ b, bl p b → ¬ F b := own_not h K.ty (by decide)

def getI (l : List Itm) (_ : Itm) : List Itm := l
theorem len_get (l : List Itm) (x : Itm) : (getI l x).length ≤ l.length + 1 := Nat.le_succ _
theorem len_del' (l : List Itm) (x : Itm) : (delI l x).length ≤ l.length + 1 := Nat.le_succ_of_le (len_del l x)
section
variable {w : World} {sl : Nat} {F : Nat → Prop} {l : List Itm}
end
end Go.Proofs.YtfokodpnoiilbaaGreat.E
