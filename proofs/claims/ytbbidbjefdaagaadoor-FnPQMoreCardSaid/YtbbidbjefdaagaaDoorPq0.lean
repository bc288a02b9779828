/-
  The queue's elements as interface values; the map that has them as keys; types and their sizes.
-/
import Derived.Test.YtbbidbjefdaagaaDoorSortW
import Derived.Test.YtbbidbjefdaagaaDoorLists
import Derived.Test.YtbbidbjefdaagaaDoorHeap
import Derived.Test.YtbbidbjefdaagaaDoorShelfB
import Derived.Test.YtbbidbjefdaagaaDoorFnsA
import Derived.Laws.StructEq
namespace Go.Proofs.YtbbidbjefdaagaaDoor.E
open Go
set_option linter.unusedSimpArgs false
set_option linter.unusedVariables false
set_option maxRecDepth 100000
set_option maxHeartbeats 2000000

def enc (q : It2) : Value := .iface 72 (.agg #[.int .i64 q.1, .int .i64 q.2])
def encs (l : List It2) : List Value := l.map enc
theorem encs_get (l : List It2) (i : Nat) : (encs l)[i]? = l[i]?.map enc := List.getElem?_map
@[simp] theorem encs_length (l : List It2) : (encs l).length = l.length := List.length_map ..
@[simp] theorem encs_append (l m : List It2) : encs (l ++ m) = encs l ++ encs m := List.map_append
theorem encs_one (xs : List It2) : ∀ u ∈ encs xs, u.oneCell' = true := by
  intro u hu
  obtain ⟨x, _, rfl⟩ := List.mem_map.1 hu
  rfl

theorem und3 : Tryd.prog.underlying 3 = some (.int .i64) := by kernel_rfl
theorem und22 : Tryd.prog.underlying 22 = some (.slice 23) := by kernel_rfl
theorem und25 : Tryd.prog.underlying 25 = some (.slice 28) := by kernel_rfl
theorem und29 : Tryd.prog.underlying 29 = some (.slice 3) := by kernel_rfl
theorem und33 : Tryd.prog.underlying 33 = some (.slice 40) := by kernel_rfl
theorem und43 : Tryd.prog.underlying 43 = some (.slice 46) := by kernel_rfl
theorem und66 : Tryd.prog.underlying 66 = some (.slice 81) := by kernel_rfl
theorem und67 : Tryd.prog.underlying 67 = some (.slice 81) := by kernel_rfl
theorem und68 : Tryd.prog.underlying 68 = some (.map 81 93) := by kernel_rfl
theorem und81 : ∃ ms, Tryd.prog.underlying 81 = some (.interface ms) := ⟨_, rfl⟩
theorem inf3 : ∃ i, Tryd.prog.info? 3 = some i ∧ i.zero = some (.int .i64 0) ∧ i.size = 1 ∧ i.bytes ≤ 4096 := ⟨_, rfl, by kernel_rfl, by kernel_rfl, Nat.le_of_ble_eq_true (by kernel_rfl)⟩
theorem inf81 : ∃ i, Tryd.prog.info? 81 = some i ∧ i.zero = some .nilIface ∧ i.size = 1 ∧ i.bytes ≤ 4096 := ⟨_, rfl, by kernel_rfl, by kernel_rfl, Nat.le_of_ble_eq_true (by kernel_rfl)⟩
def z28 : Value := .agg #[.int .i64 0, .int .i64 0]
def z40 : Value := .agg #[.int .i64 0, .int .i64 0, .slice none 0 0]
def z46 : Value := .agg #[.slice none 0 0, .int .i64 0, .bool false, .int .i64 0]
theorem inf28 : ∃ i, Tryd.prog.info? 28 = some i ∧ i.zero = some z28 ∧ i.size = 2 ∧ i.bytes ≤ 4096 := ⟨_, rfl, by kernel_rfl, by kernel_rfl, Nat.le_of_ble_eq_true (by kernel_rfl)⟩
theorem inf40 : ∃ i, Tryd.prog.info? 40 = some i ∧ i.zero = some z40 ∧ i.size = 3 ∧ i.bytes ≤ 4096 := ⟨_, rfl, by kernel_rfl, by kernel_rfl, Nat.le_of_ble_eq_true (by kernel_rfl)⟩
theorem inf46 : ∃ i, Tryd.prog.info? 46 = some i ∧ i.zero = some z46 ∧ i.size = 4 ∧ i.bytes ≤ 4096 := ⟨_, rfl, by kernel_rfl, by kernel_rfl, Nat.le_of_ble_eq_true (by kernel_rfl)⟩
theorem inf72 : ∃ i, Tryd.prog.info? 72 = some i ∧ i.comparable = true := ⟨_, rfl, by kernel_rfl⟩
theorem inf93 : ∃ i, Tryd.prog.info? 93 = some i ∧ i.zero = some (.agg #[]) := ⟨_, rfl, by kernel_rfl⟩
theorem zero93 (w : World) : (zeroValue 93).run Tryd.prog w = .ok (.agg #[]) w := by obtain ⟨i, h1, h2⟩ := inf93; exact zero_of h1 h2 w

/-! ## Elements as keys -/
theorem und72 : Tryd.prog.underlying 72 = some (.struct (Tryd.prog.fieldsOf 72)) := by kernel_rfl
theorem und28 : Tryd.prog.underlying 28 = some (.struct (Tryd.prog.fieldsOf 28)) := by kernel_rfl
theorem fields28' : (Tryd.prog.fieldsOf 28).toList.map (fun f => (decide (f.name = "_"), f.type, f.offset)) = [(false, 3, 0), (false, 3, 1)] := by kernel_rfl
theorem fields28 : ∃ a b, (Tryd.prog.fieldsOf 28).toList = [a, b] ∧ (a.name ≠ "_" ∧ a.type = 3 ∧ a.offset = 0) ∧ (b.name ≠ "_" ∧ b.type = 3 ∧ b.offset = 1) := by
  have h := fields28'
  match hl : (Tryd.prog.fieldsOf 28).toList with
  | [] => rw [hl] at h; simp at h
  | [a] => rw [hl] at h; simp at h
  | [a, b] =>
    rw [hl] at h
    simp only [List.map_cons, List.map_nil, List.cons.injEq, Prod.mk.injEq, and_true] at h
    exact ⟨a, b, rfl, ⟨of_decide_eq_false h.1.1, h.1.2⟩, ⟨of_decide_eq_false h.2.1, h.2.2⟩⟩
  | _ :: _ :: _ :: _ => rw [hl] at h; simp at h
theorem fields72' : (Tryd.prog.fieldsOf 72).toList.map (fun f => (decide (f.name = "_"), f.type, f.offset)) = [(false, 28, 0)] := by kernel_rfl
theorem fields72 : ∃ a, (Tryd.prog.fieldsOf 72).toList = [a] ∧ (a.name ≠ "_" ∧ a.type = 28 ∧ a.offset = 0) := by
  have h := fields72'
  match hl : (Tryd.prog.fieldsOf 72).toList with
  | [] => rw [hl] at h; simp at h
  | [a] =>
    rw [hl] at h
    simp only [List.map_cons, List.map_nil, List.cons.injEq, Prod.mk.injEq, and_true] at h
    exact ⟨a, rfl, ⟨of_decide_eq_false h.1, h.2⟩⟩
  | _ :: _ :: _ => rw [hl] at h; simp at h
theorem held72 : Tryd.prog.stoodInHeld 72 = false := by kernel_rfl
theorem held28 : Tryd.prog.stoodInHeld 28 = false := by kernel_rfl
theorem part0 (x y : Int) (w : World) : (part 3 #[.int .i64 x, .int .i64 y] 0).run Tryd.prog w = .ok (.int .i64 x) w := by kernel_rfl
theorem part1 (x y : Int) (w : World) : (part 3 #[.int .i64 x, .int .i64 y] 1).run Tryd.prog w = .ok (.int .i64 y) w := by kernel_rfl
theorem partA (x y : Int) (w : World) : (part 28 #[.int .i64 x, .int .i64 y] 0).run Tryd.prog w = .ok (.agg #[.int .i64 x, .int .i64 y]) w := by kernel_rfl
theorem eq_agg0 (n : Nat) (a b : It2) (w : World) : (Op.equalIn (n + 2) 28 (.agg #[.int .i64 a.1, .int .i64 a.2]) (.agg #[.int .i64 b.1, .int .i64 b.2])).run Tryd.prog w = .ok (decide (a = b)) w := by
  rw [run_equalIn_agg w _ _ _ _ und28 held28]
  obtain ⟨f, g, hl, ⟨f1, f2, f3⟩, g1, g2, g3⟩ := fields28
  rw [hl]
  simp only [Op.eqFields, f2, f3, g2, g3, ne_eq, f1, g1, not_false_eq_true, if_true, Sem.run_bind, part0, part1, Result.andThen_ok, Go.run_equalIn_int (P := Tryd.prog) w _ _ _ _ _ _ und3]
  obtain ⟨a1, a2⟩ := a
  obtain ⟨b1, b2⟩ := b
  by_cases h : a1 = b1
  · subst h
    by_cases h' : a2 = b2
    · subst h'; simp [part1, Go.run_equalIn_int (P := Tryd.prog) w _ _ _ _ _ _ und3]
    · simp [h', part1, Go.run_equalIn_int (P := Tryd.prog) w _ _ _ _ _ _ und3]
  · simp [h]
theorem eq_agg (n : Nat) (a b : It2) (w : World) : (Op.equalIn (n + 3) 72 (.agg #[.int .i64 a.1, .int .i64 a.2]) (.agg #[.int .i64 b.1, .int .i64 b.2])).run Tryd.prog w = .ok (decide (a = b)) w := by
  rw [run_equalIn_agg w _ _ _ _ und72 held72]
  obtain ⟨f, hl, f1, f2, f3⟩ := fields72
  rw [hl]
  simp only [Op.eqFields, f2, f3, ne_eq, f1, not_false_eq_true, if_true, Sem.run_bind, partA, Result.andThen_ok, eq_agg0]
  by_cases h : a = b
  · simp [h]
  · simp [h]
theorem eq_enc (a b : It2) (w : World) : (Op.equal 81 (enc a) (enc b)).run Tryd.prog w = .ok (decide (a = b)) w := by
  obtain ⟨ms, hu⟩ := und81
  obtain ⟨i, h1, h2⟩ := inf72
  show (Op.equalIn (9996 + 3 + 1) 81 _ _).run _ w = _
  unfold Op.equalIn enc
  simp [run_underlying hu, run_typeInfo h1, h2, eq_agg]
theorem check_agg0 (b : Bool) (n : Nat) (a : It2) (w : World) : (Instr.checkKey b (n + 2) 28 (.agg #[.int .i64 a.1, .int .i64 a.2])).run Tryd.prog w = .ok () w := by
  obtain ⟨f, g, hl, ⟨f1, f2, f3⟩, g1, g2, g3⟩ := fields28
  unfold Instr.checkKey
  simp only [Sem.run_bind, run_underlying und28, Result.andThen_ok]
  rw [← Array.forIn_toList, hl]
  simp [f1, f2, f3, g1, g2, g3, part0, part1, check_int und3]
theorem check_agg (b : Bool) (n : Nat) (a : It2) (w : World) : (Instr.checkKey b (n + 3) 72 (.agg #[.int .i64 a.1, .int .i64 a.2])).run Tryd.prog w = .ok () w := by
  obtain ⟨f, hl, f1, f2, f3⟩ := fields72
  unfold Instr.checkKey
  simp only [Sem.run_bind, run_underlying und72, Result.andThen_ok]
  rw [← Array.forIn_toList, hl]
  simp [f1, f2, f3, partA, check_agg0]
theorem check_enc (b : Bool) (a : It2) (w : World) : (Instr.checkKey b 10000 81 (enc a)).run Tryd.prog w = .ok () w := by
  obtain ⟨ms, hu⟩ := und81
  obtain ⟨i, h1, h2⟩ := inf72
  show (Instr.checkKey b (9996 + 3 + 1) 81 (enc a)).run _ w = _
  unfold Instr.checkKey enc
  simp [run_underlying hu, run_typeInfo h1, h2, check_agg]
theorem keyE : KeyOk Tryd.prog 81 enc := by
  obtain ⟨ms, hu⟩ := und81
  refine ⟨fun b a w => check_enc b a w, fun a es l w he => ?_, fun a => ?_⟩
  · have hnow : ∀ (es : List MapEntry), es ≠ [] → Instr.findNow (.interface ms) (enc a) es 0 = none := by
      intro es h
      cases es with
      | nil => exact absurd rfl h
      | cons e es => simp [Instr.findNow, Instr.sameNow]
    have hask : ∀ (es : List MapEntry) (l : List (It2 × Value)) (i : Nat), es.map (fun e => (e.key, e.val)) = l.map (fun p => (enc p.1, p.2)) → (Instr.findAsking 81 (enc a) es i).run Tryd.prog w = .ok (idx a l i) w := by
      intro es
      induction es with
      | nil => intro l i he; cases l with
        | nil => rfl
        | cons p l => simp at he
      | cons e es ih => intro l i he; cases l with
        | nil => simp at he
        | cons p l =>
          simp only [List.map_cons, List.cons.injEq, Prod.mk.injEq] at he
          obtain ⟨⟨h1, h2⟩, h3⟩ := he
          simp only [Instr.findAsking, h1, Sem.run_bind, eq_enc, Result.andThen_ok, idx]
          by_cases hab : a = p.1
          · simp [hab, h2]
          · simp only [hab, decide_false, if_false, Bool.false_eq_true]; exact ih l (i + 1) h3
    unfold Instr.findKey
    simp only [Sem.run_bind, run_underlying hu, Result.andThen_ok]
    cases hes : es with
    | nil => subst hes; cases l with
      | nil => rfl
      | cons p l => simp at he
    | cons e es' =>
      rw [hnow (e :: es') (by simp), ← hes]
      exact hask es l 0 he
  · show Instr.sameBits (9998 + 2) (enc a) (enc a) = true
    unfold enc
    simp [Instr.sameBits]
end Go.Proofs.YtbbidbjefdaagaaDoor.E
