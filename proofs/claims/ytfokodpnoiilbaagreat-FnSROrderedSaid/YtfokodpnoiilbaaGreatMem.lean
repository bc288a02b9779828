/-
  Memory, as the contracts tell it: the words' meaning as simp laws; what a call may turn ('Fr').
-/
import Derived.Test.YtfokodpnoiilbaaGreatEng
namespace Go.Proofs.YtfokodpnoiilbaaGreat.E
open Go Go.RowKit

section
variable {w : World} {P : Program}
@[simp] theorem LoadT_int {k : IntKind} {a : Addr} {f : Int → W} : LoadT (.int k) a f w ↔ ∃ n, w.cell? a = some (.int k n) ∧ f n w := Iff.rfl
@[simp] theorem LoadT_float {k : FloatKind} {a : Addr} {f : Nat → W} : LoadT (.float k) a f w ↔ ∃ n, w.cell? a = some (.float k n) ∧ f n w := Iff.rfl
@[simp] theorem LoadT_bool {a : Addr} {f : Bool → W} : LoadT .bool a f w ↔ ∃ n, w.cell? a = some (.bool n) ∧ f n w := Iff.rfl
@[simp] theorem LoadT_str {a : Addr} {f : ByteArray → W} : LoadT .str a f w ↔ ∃ n, w.cell? a = some (.string n) ∧ f n w := Iff.rfl
@[simp] theorem LoadT_ptr {a : Addr} {f : Option Addr → W} : LoadT .ptr a f w ↔ ∃ n, w.cell? a = some (.pointer n) ∧ f n w := Iff.rfl
@[simp] theorem LoadT_map {a : Addr} {f : Option Nat → W} : LoadT .map a f w ↔ ∃ n, w.cell? a = some (.map n) ∧ f n w := Iff.rfl
@[simp] theorem LoadT_any {a : Addr} {f : Value → W} : LoadT .any a f w ↔ ∃ n, w.cell? a = some n ∧ f n w := Iff.rfl
@[simp] theorem LoadT_slice {a : Addr} {f : Option Addr → Nat → Nat → W} : LoadT .slice a f w ↔ ∃ p l c, w.cell? a = some (.slice p l c) ∧ f p l c w :=
  ⟨fun ⟨d, h, k⟩ => ⟨d.1, d.2.1, d.2.2, h, k⟩, fun ⟨p, l, c, h, k⟩ => ⟨(p, l, c), h, k⟩⟩
@[simp] theorem NN_mk {a : Addr} {f : Addr → W} : NN (some a) f = f a := rfl
@[simp] theorem Req_iff {c : Prop} {k : W} : Req c k w ↔ c ∧ k w := Iff.rfl
@[simp] theorem Chk1_iff {a : Addr} {v : Value} {k : W} : Chk1 a v k w ↔ w.cell? a = some v ∧ k w := Iff.rfl
@[simp] theorem Store1_iff {a : Addr} {v : Value} {k : W} : Store1 a v k w ↔ oneC v = true ∧ (∃ old, w.cell? a = some old) ∧ w.frozen? a = false ∧ k (w.setCell a v) := Iff.rfl
@[simp] theorem New_iff {c : List Value} {t : TypeId} {f : Nat → W} : New c t f w ↔ f w.heap.size (w.alloc (.cells c.toArray t)) := Iff.rfl
@[simp] theorem Drw_iff {k : W} : Drw k w ↔ k w.drew := Iff.rfl
@[simp] theorem BIf_true {x y : W} : BIf true x y = x := rfl
@[simp] theorem BIf_false {x y : W} : BIf false x y = y := rfl
@[simp] theorem Both_iff {x y : W} : Both x y w ↔ x w ∧ y w := Iff.rfl
@[simp] theorem oneC_int {k : IntKind} {n : Int} : oneC (.int k n) = true := rfl
@[simp] theorem oneC_float {k : FloatKind} {n : Nat} : oneC (.float k n) = true := rfl
@[simp] theorem oneC_bool {b : Bool} : oneC (.bool b) = true := rfl
@[simp] theorem oneC_str {b : ByteArray} : oneC (.string b) = true := rfl
@[simp] theorem oneC_ptr {p : Option Addr} : oneC (.pointer p) = true := rfl
@[simp] theorem oneC_slice {p : Option Addr} {l c : Nat} : oneC (.slice p l c) = true := rfl
@[simp] theorem oneC_map {p : Option Nat} : oneC (.map p) = true := rfl
@[simp] theorem oneC_iface {t : TypeId} {v : Value} : oneC (.iface t v) = true := rfl
@[simp] theorem oneC_nilIface : oneC .nilIface = true := rfl
@[simp] theorem oneC_func {f : Go.Fn} {a b : Array Value} : oneC (.func f a b) = true := rfl
theorem BIf_intro {b : Bool} {x y : W} (h1 : b = true → x w) (h2 : b = false → y w) : BIf b x y w := by cases b; exact h2 rfl; exact h1 rfl
theorem Bind_intro {α : Type} {a : α} {f : α → W} (h : ∀ x, x = a → f x w) : Bind a f w := h a rfl
@[simp] theorem Bind_iff {α : Type} {a : α} {f : α → W} : Bind a f = f a := rfl
theorem back0 {f : W} (h : f w) : Back (.tup []) f (.returned (.tuple #[])) w := ⟨(), rfl, h⟩
theorem back_int {k : IntKind} {f : Int → W} {n : Int} (h : f n w) : Back (.s (.one (.int k))) f (.returned (.int k n)) w := ⟨(n, ()), rfl, h⟩
theorem back_bool {f : Bool → W} {n : Bool} (h : f n w) : Back (.s (.one .bool)) f (.returned (.bool n)) w := ⟨(n, ()), rfl, h⟩
theorem back_ptr {f : Option Addr → W} {n : Option Addr} (h : f n w) : Back (.s (.one .ptr)) f (.returned (.pointer n)) w := ⟨(n, ()), rfl, h⟩
theorem back_any {f : Value → W} {n : Value} (h : f n w) : Back (.s (.one .any)) f (.returned n) w := ⟨(n, ()), rfl, h⟩
theorem back_slice {f : Option Addr → Nat → Nat → W} {p : Option Addr} {l c : Nat} (h : f p l c w) : Back (.s (.one .slice)) f (.returned (.slice p l c)) w := ⟨((p, l, c), ()), rfl, h⟩

/-- A call, by what holds of how it comes back. -/
theorem CallT_mono {g : FuncId} {as : List Value} {r : RTy} {f : Fn W r.leaves} {R : Ending → World → Prop} (h : Calls P g as.toArray w R) (hk : ∀ e w', R e w' → Back r f e w') : CallT P g as r f w :=
  h.mono hk
end

/-- Outside 'S' the world w' is as w was: what was there has not turned; there may be more. -/
structure Fr (S : Nat → Prop) (w w' : World) : Prop where
  os : w'.os = w.os
  tape : w'.tape = w.tape
  output : w'.output = w.output
  size : w.heap.size ≤ w'.heap.size
  block : ∀ b, b < w.heap.size → ¬ S b → w'.heap[b]? = w.heap[b]?

namespace Fr
theorem refl (S : Nat → Prop) (w : World) : Fr S w w := ⟨rfl, rfl, rfl, Nat.le_refl _, fun _ _ _ => rfl⟩
theorem trans {S S' : Nat → Prop} {w w' w'' : World} (h : Fr S w w') (h' : Fr S' w' w'') (hs : ∀ b, S' b → S b ∨ w.heap.size ≤ b) : Fr S w w'' :=
  ⟨h'.os.trans h.os, h'.tape.trans h.tape, h'.output.trans h.output, Nat.le_trans h.size h'.size, fun b hb hS =>
    (h'.block b (Nat.lt_of_lt_of_le hb h.size) (fun hS' => (hs b hS').elim hS (fun h => absurd hb (Nat.not_lt.2 h)))).trans (h.block b hb hS)⟩
theorem mono {S S' : Nat → Prop} {w w' : World} (h : Fr S w w') (hs : ∀ b, S b → S' b ∨ w.heap.size ≤ b) : Fr S' w w' :=
  ⟨h.os, h.tape, h.output, h.size, fun b hb hS => h.block b hb fun hS' => (hs b hS').elim hS (fun h => absurd hb (Nat.not_lt.2 h))⟩
theorem alloc (S : Nat → Prop) (w : World) (o : Obj) : Fr S w (w.alloc o) :=
  ⟨rfl, rfl, rfl, by simp, fun b hb _ => Below.heap_alloc _ _ _ hb⟩
theorem setCell {S : Nat → Prop} (w : World) (a : Addr) (v : Value) (h : S a.block) : Fr S w (w.setCell a v) :=
  ⟨rfl, rfl, rfl, by simp, fun b _ hS => Below.heap_setCell _ _ _ _ (fun e => hS (e ▸ h))⟩
theorem drew (S : Nat → Prop) (w : World) : Fr S w w.drew := ⟨rfl, rfl, rfl, Nat.le_refl _, fun _ _ _ => rfl⟩
theorem cell {S : Nat → Prop} {w w' : World} (h : Fr S w w') {a : Addr} (ha : a.block < w.heap.size) (hS : ¬ S a.block) : w'.cell? a = w.cell? a :=
  World.cell?_of_block (w := w) (h.block _ ha hS)
theorem frozen {S : Nat → Prop} {w w' : World} (h : Fr S w w') {a : Addr} (ha : a.block < w.heap.size) (hS : ¬ S a.block) : w'.frozen? a = w.frozen? a :=
  World.frozen?_of_block (w := w) (h.block _ ha hS)
theorem below {S : Nat → Prop} {w w' : World} (h : Fr S w w') (hS : ∀ b, S b → w.heap.size ≤ b) : Below w.heap.size w w' :=
  ⟨h.os, h.tape, h.output, h.size, fun b hb => h.block b hb fun hS' => absurd hb (Nat.not_lt.2 (hS b hS'))⟩
end Fr

theorem cell_none {w : World} {a : Addr} (v : Value) (h : w.cell? a = none) : (w.setCell a v).cell? a = none := by
  unfold World.cell? at h ⊢
  simp only [World.setCell, Array.getElem?_modify, ↓reduceIte]
  cases hb : w.heap[a.block]? with
  | none => rfl
  | some o =>
    cases o <;> simp_all
/-- A cell behind a store. -/
@[simp] theorem cell_set {w : World} {a b : Addr} {v : Value} : (w.setCell a v).cell? b = if a = b then (w.cell? a).map (fun _ => v) else w.cell? b := by
  by_cases h : a = b
  · subst h
    rw [if_pos rfl]
    cases hc : w.cell? a with
    | none => exact cell_none v hc
    | some u => exact World.cell?_setCell_same w a v hc
  · rw [if_neg h]; exact World.cell?_setCell_other _ _ _ _ h
@[simp] theorem cell_new {w : World} {c : Array Value} {t : TypeId} {b : Addr} : (w.alloc (.cells c t)).cell? b = if b.block = w.heap.size then (if b.spot.isSome then none else c[b.off]?) else w.cell? b := by
  by_cases h : b.block = w.heap.size
  · rw [if_pos h]; show ({ w with heap := w.heap.push (.cells c t) } : World).cell? b = _; unfold World.cell?; simp only [h, Array.getElem?_push_size]
  · rw [if_neg h]; exact World.cell?_alloc_old _ _ _ h
@[simp] theorem frozen_new {w : World} {c : Array Value} {t : TypeId} {b : Addr} : (w.alloc (.cells c t)).frozen? b = if b.block = w.heap.size then false else w.frozen? b := by
  by_cases h : b.block = w.heap.size
  · rw [if_pos h]; show ({ w with heap := w.heap.push (.cells c t) } : World).frozen? b = _; unfold World.frozen?; simp only [h, Array.getElem?_push_size]; simp
  · rw [if_neg h]; exact World.frozen?_alloc_old _ _ _ h
theorem cell_lt {w : World} {a : Addr} {v : Value} (h : w.cell? a = some v) : a.block < w.heap.size := World.block_lt_of_cell? w a h

end Go.Proofs.YtfokodpnoiilbaaGreat.E
