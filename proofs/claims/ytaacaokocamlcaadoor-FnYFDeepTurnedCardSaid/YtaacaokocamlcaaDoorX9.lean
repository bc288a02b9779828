/-
  An x-fast trie made.
-/
import Derived.Test.YtaacaokocamlcaaDoorX7
import Derived.Test.YtaacaokocamlcaaDoorX8
namespace Go.Proofs.YtaacaokocamlcaaDoor.E
open Go
set_option linter.unusedSimpArgs false
set_option linter.unusedVariables false
set_option maxRecDepth 100000
set_option maxHeartbeats 4000000

theorem ta {v : Value} {t : TypeId} {z : Value} {b : Bool} {f : Value → W} {w : World} (h : (Instr.typeAssert v 20 t true).run Tryd.prog w = .ok (.tuple #[z, .bool b]) w) (hk : f (.tuple #[z, .bool b]) w) : RawS Tryd.prog (Instr.typeAssert v 20 t true) (.s (.one .any)) f w := ⟨(_, ()), h, hk⟩
theorem extb {z : Value} {b : Bool} {f : Bool → W} {w : World} (hk : f b w) : ExtW (.tuple #[z, .bool b]) 1 (.one .bool) f w := ⟨(b, ()), ⟨_, rfl, rfl⟩, hk⟩
theorem exti {q : IntKind} {n : Int} {b : Bool} {f : Int → W} {w : World} (hk : f n w) : ExtW (.tuple #[.int q n, .bool b]) 0 (.one (.int q)) f w := ⟨(n, ()), ⟨_, rfl, rfl⟩, hk⟩
theorem t8_8 (w : World) : (Instr.typeAssert (.iface 5 (.int .u8 0)) 20 5 true).run Tryd.prog w = .ok (.tuple #[.int .u8 0, .bool true]) w := by kernel_rfl
theorem t16_8 (w : World) : (Instr.typeAssert (.iface 23 (.int .u16 0)) 20 5 true).run Tryd.prog w = .ok (.tuple #[.int .u8 0, .bool false]) w := by kernel_rfl
theorem t16_16 (w : World) : (Instr.typeAssert (.iface 23 (.int .u16 0)) 20 23 true).run Tryd.prog w = .ok (.tuple #[.int .u16 0, .bool true]) w := by kernel_rfl
theorem t32_8 (w : World) : (Instr.typeAssert (.iface 84 (.int .u32 0)) 20 5 true).run Tryd.prog w = .ok (.tuple #[.int .u8 0, .bool false]) w := by kernel_rfl
theorem t32_16 (w : World) : (Instr.typeAssert (.iface 84 (.int .u32 0)) 20 23 true).run Tryd.prog w = .ok (.tuple #[.int .u16 0, .bool false]) w := by kernel_rfl
theorem t32_32 (w : World) : (Instr.typeAssert (.iface 84 (.int .u32 0)) 20 84 true).run Tryd.prog w = .ok (.tuple #[.int .u32 0, .bool true]) w := by kernel_rfl
theorem t64_8 (w : World) : (Instr.typeAssert (.iface 22 (.int .u64 0)) 20 5 true).run Tryd.prog w = .ok (.tuple #[.int .u8 0, .bool false]) w := by kernel_rfl
theorem t64_16 (w : World) : (Instr.typeAssert (.iface 22 (.int .u64 0)) 20 23 true).run Tryd.prog w = .ok (.tuple #[.int .u16 0, .bool false]) w := by kernel_rfl
theorem t64_32 (w : World) : (Instr.typeAssert (.iface 22 (.int .u64 0)) 20 84 true).run Tryd.prog w = .ok (.tuple #[.int .u32 0, .bool false]) w := by kernel_rfl
theorem t64_68 (w : World) : (Instr.typeAssert (.iface 22 (.int .u64 0)) 20 68 true).run Tryd.prog w = .ok (.tuple #[.int .u64 0, .bool false]) w := by kernel_rfl
theorem t64_22 (w : World) : (Instr.typeAssert (.iface 22 (.int .u64 0)) 20 22 true).run Tryd.prog w = .ok (.tuple #[.int .u64 0, .bool true]) w := by kernel_rfl
/-- newNode. -/
theorem F48_spec {k : Value → W} {w : World} {o : Option Nat} {v : Value} (hv : oneC v = true) (hk : ∀ n w', n = w.heap.size → Blk w' n 91 [v, pO none, pO none, pO o] → Fr (fun _ => False) w w' → w'.heap.size = n + 1 → k (.pointer (some ⟨n, 0, none⟩)) w') : F48 k (oA o) v w := by
  unfold F48
  exact ⟨hv, new_intro fun n w1 e1 b1 f1 z1 => hk n w1 e1 b1 f1 z1⟩
def N0 (r : Nat) : Nd := fun i p => if i = 0 ∧ p = 0 then some r else none
theorem n0_some {r i p x : Nat} : N0 r i p = some x ↔ i = 0 ∧ p = 0 ∧ x = r := by
  unfold N0
  by_cases h : i = 0 ∧ p = 0
  · rw [if_pos h]; simp [h, eq_comm]
  · rw [if_neg h]; simp only [reduceCtorEq, false_iff]; exact fun e => h ⟨e.1, e.2.1⟩
theorem t0_new {B r : Nat} (hB : 0 < B) : T0 B (N0 r) (fun _ _ => none) none none := by
  have no : ∀ {i p x}, N0 r (i + 1) p = some x → False := fun h => by have := (n0_some.1 h).1; omega
  refine ⟨hB, ⟨r, n0_some.2 ⟨rfl, rfl, rfl⟩⟩, fun {i p x} h => ?_, fun h => (no h).elim, fun {i p x} h h0 => ?_, fun {i j p q x} h h2 => ?_, fun _ _ _ h => (no h).elim, fun _ _ _ h => (no h).elim, (fun _ _ _ _ h => by cases h), (fun _ _ h => by cases h), (fun _ _ => rfl), fun _ k => ?_, (fun h => by cases h), fun _ k => ?_, (fun h => by cases h)⟩
  · obtain ⟨rfl, rfl, rfl⟩ := n0_some.1 h; exact ⟨Nat.zero_le _, by decide⟩
  · have := (n0_some.1 h).1; omega
  · obtain ⟨rfl, rfl, rfl⟩ := n0_some.1 h
    obtain ⟨rfl, rfl, _⟩ := n0_some.1 h2
    exact ⟨rfl, rfl⟩
  · unfold N0; rw [if_neg (by omega)]
  · unfold N0; rw [if_neg (by omega)]
theorem nl_new {B r : Nat} (hB : 0 < B) : Nl B (N0 r) (fun _ _ => none) none none := by
  refine ⟨fun {k x} h => ?_, fun {k x} h => ?_, (fun _ _ _ _ h => by cases h), (fun _ _ _ _ h => by cases h)⟩
  · have := (n0_some.1 h).1; omega
  · have := (n0_some.1 h).1; omega
theorem makeMap50 {f : Option Nat → W} {w : World} (hk : ∀ n w', n = w.heap.size → MapB w' n kU [] → Fr (fun _ => False) w w' → w'.heap.size = n + 1 → f (some n) w') : RawT Tryd.prog (Instr.makeMap 88 (some (.int .i64 50))) (.s (.one .map)) f w :=
  RawT_map (w' := w.alloc (.map #[] 0)) (p := some w.heap.size) (by simp [Instr.makeMap, run_underlying und88, asInt, asIntOf]) (hk _ _ rfl (MapB.new w) (Fr.alloc _ _ _) (by simp))
theorem inf88 : ∃ i, Tryd.prog.info? 88 = some i ∧ i.zero = some (.map none) ∧ i.size = 1 ∧ i.bytes ≤ 4096 := ⟨_, rfl, by kernel_rfl, by kernel_rfl, Nat.le_of_ble_eq_true (by kernel_rfl)⟩
/-- init, behind the choice of the universe. -/
theorem F41_J1_spec {k : Value → W} {w : World} {a B : Nat} (h0 : 0 < B) (h64 : B ≤ 64) (hB : Blk w a 82 [.slice none 0 0, .pointer none, .int .u64 0, .int .u8 0, .int .u8 0, .pointer none, .pointer none])
    (hk : ∀ ls mm r w', XH w' a ls B mm (N0 r) (fun _ _ => none) (fun _ => none) (fun _ => .nilIface) none none 0 → w.heap.size ≤ ls → w.heap.size ≤ r → (∀ i, i < B → w.heap.size ≤ mm i) → Fr (fun b => b = a) w w' → k (.tuple #[]) w') : F41_J1 k (some ⟨a, 0, none⟩) (B : Nat) w := by
  obtain ⟨ii, g1, g2, g3, g4⟩ := inf88
  have ha := hB.lt
  unfold F41_J1
  refine make_intro B B und79 g1 g2 g3 rfl (by omega) (by omega) (Nat.le_refl _) fun w1 f1 o1 b1 z1 => ?_
  simp only [NN_mk]
  refine store_intro (i := 0) (hB.fr f1 id) (by simp) rfl fun w2 b2 f2 z2 => ?_
  refine store_intro (i := 3) b2 (by simp) rfl fun w3 b3 f3 z3 => ?_
  refine store_intro (i := 4) b3 (by simp) rfl fun w4 b4 f4 z4 => ?_
  have e4 : subI .u8 64 ((B : Nat) : Int) = ((64 - B : Nat) : Int) := by
    show IntKind.wrap .u8 _ = _
    rw [wrap_u8 (by omega) (by omega)]; omega
  rw [e4] at b4
  have f14 : Fr (fun b => b = a) w1 w4 := (f2.trans f3 fun b e => .inl e).trans f4 fun b e => .inl e
  have f04 : Fr (fun b => b = a) w w4 := (f1.mono fun _ h => h.elim).trans f14 fun b e => .inl e
  have b14 := b1.fr f14 (show ¬ w.heap.size = a by omega)
  generalize hls : w.heap.size = ls at *
  refine F41_L1_rule (fun xft bits i w' => xft = some ⟨a, 0, none⟩ ∧ bits = (B : Nat) ∧ ∃ (n : Nat) (ms : List Nat), i = n ∧ n ≤ B ∧ ms.length = n ∧ ms.Nodup ∧ Blk w' a 82 [.slice (some ⟨ls, 0, none⟩) B B, .pointer none, .int .u64 0, .int .u8 (B : Nat), .int .u8 (64 - B : Nat), .pointer none, .pointer none] ∧ Blk w' ls 88 (ms.map (fun m => .map (some m)) ++ List.replicate (B - n) (.map none)) ∧ (∀ m ∈ ms, ls ≤ m ∧ MapB w' m kU []) ∧ Fr (fun b => b = a) w w')
    (fun _ bits i _ => (bits - i).toNat) ?_ ⟨rfl, rfl, 0, [], rfl, Nat.zero_le _, rfl, List.nodup_nil, b4, by simpa using b14, (fun m h => by cases h), f04⟩
  rintro xft bits i w5 ⟨rfl, rfl, n, ms, rfl, hn, hl, hnd, b5, l5, hm, f5⟩
  unfold F41_L1
  by_cases hlt : n < B
  · rw [decide_eq_true (by omega)]
    simp only [BIf_true, NN_mk]
    refine load_slice (i := 0) b5 rfl ?_
    refine makeMap50 fun m w6 e6 m6 f6 z6 => ?_
    simp only [NN_mk, Int.toNat_natCast]
    have l6 := l5.fr f6 id
    refine ⟨by omega, ?_⟩
    rw [add_mk, Nat.zero_add]
    refine store_intro (i := n) l6 (by simp; omega) rfl fun w7 b7 f7 z7 => ?_
    have hls5 := l5.lt
    have e1 : addI .u8 ((n : Nat) : Int) 1 = ((n + 1 : Nat) : Int) := by
      show IntKind.wrap .u8 _ = _
      rw [wrap_u8 (by omega) (by omega)]; rfl
    rw [e1]
    have hmn : m ∉ ms := fun h => by have := (hm m h).2.lt; omega
    refine ⟨⟨(by trivial), (by trivial), n + 1, ms ++ [m], rfl, by omega, by simp [hl], List.nodup_append.2 ⟨hnd, by simp, fun x hx y hy e => by simp at hy; subst hy; subst e; exact hmn hx⟩, (b5.fr f6 id).fr f7 (fun e => ?_), ?_, fun m' hm' => ?_, (f5.trans f6 fun _ h => h.elim).trans f7 fun b e => ?_⟩, by omega⟩
    · have e : a = ls := e
      omega
    · have : (ms.map (fun m => Value.map (some m)) ++ List.replicate (B - n) (Value.map none)).set n (Value.map (some m)) = (ms ++ [m]).map (fun m => Value.map (some m)) ++ List.replicate (B - (n + 1)) (Value.map none) := by
        rw [List.set_append_right _ _ (by simp [hl]), List.map_append, List.append_assoc]
        congr 1
        obtain ⟨d, hd⟩ : ∃ d, B - n = d + 1 := ⟨B - n - 1, by omega⟩
        rw [hd, show B - (n + 1) = d by omega, List.replicate_succ]
        simp [hl]
      rw [← this]; exact b7
    · rcases List.mem_append.1 hm' with h | h
      · obtain ⟨h1, h2⟩ := hm m' h
        exact ⟨h1, (h2.fr f6 id).fr f7 fun e => (h2.not_blk l5) e⟩
      · simp only [List.mem_singleton] at h
        subst h
        exact ⟨by omega, m6.fr f7 fun e => (m6.not_blk l6) e⟩
    · have e : b = ls := e
      exact .inr (by omega)
  · have : n = B := by omega
    subst this
    rw [decide_eq_false (by omega)]
    simp only [BIf_false, NN_mk]
    refine store_intro (i := 2) b5 (by simp) rfl fun w6 b6 f6 z6 => ?_
    refine F48_call (F48_spec (o := none) (v := .nilIface) rfl fun r w7 e7 b7 f7 z7 => back_p ?_)
    try simp only [NN_mk]
    refine store_intro (i := 1) (b6.fr f7 id) (by simp) rfl fun w8 b8 f8 z8 => ?_
    have f58 : Fr (fun b => b = a) w5 w8 := (f6.trans f7 fun _ h => h.elim).trans f8 fun b e => .inl e
    have hr : w6.heap.size = r := e7.symm
    have hal : ¬ a = ls := by omega
    have ha6 := b6.lt
    simp only [Nat.sub_self, List.replicate_zero, List.append_nil] at l5
    have f08 := f5.trans f58 fun b e => .inl e
    refine hk ls (fun i => ms.getD i 0) r w8 ⟨?_, ⟨h64, ?_, fun i hi => ⟨[], ?_, fun p => ?_⟩, fun i j hi hj e => ?_⟩, ⟨fun {i p x} h => ?_, fun _ _ => rfl, fun {q x} h => ?_, fun _ => rfl, fun {i q x} h => ?_⟩⟩ (Nat.le_refl _) (by have := f5.size; omega) (fun i hi => ?_) f08
    · exact b8
    · have := l5.fr f58 (fun e => hal e.symm)
      have e : ms.map (fun m => Value.map (some m)) = (List.range n).map fun i => Value.map (some (ms.getD i 0)) := by
        refine List.ext_getElem? fun j => ?_
        rw [List.getElem?_map, List.getElem?_map]
        by_cases hj : j < n
        · rw [List.getElem?_range hj, List.getElem?_eq_getElem (by omega)]
          simp only [Option.map_some]
          rw [List.getD_eq_getElem?_getD, List.getElem?_eq_getElem (by omega)]; rfl
        · rw [List.getElem?_eq_none (by omega), List.getElem?_eq_none (by simp; omega)]; rfl
      rw [← e]; exact this
    · have hi' : i < ms.length := by omega
      have hg : ms.getD i 0 = ms[i] := by rw [List.getD_eq_getElem?_getD, List.getElem?_eq_getElem hi']; rfl
      show MapB w8 (ms.getD i 0) kU []
      rw [hg]
      have := (hm ms[i] (List.getElem_mem hi')).2
      exact this.fr f58 fun e => (this.not_blk b5) e
    · unfold N0; rw [if_neg (by omega)]; rfl
    · have hi' : i < ms.length := by omega
      have hj' : j < ms.length := by omega
      have hg : ∀ i (h : i < ms.length), ms.getD i 0 = ms[i] := fun i h => by rw [List.getD_eq_getElem?_getD, List.getElem?_eq_getElem h]; rfl
      have e : ms.getD i 0 = ms.getD j 0 := e
      rw [hg i hi', hg j hj'] at e
      refine Classical.byContradiction fun hne => ?_
      have hp := List.pairwise_iff_getElem.1 (show ms.Pairwise (· ≠ ·) from hnd)
      rcases Nat.lt_or_gt_of_ne hne with h | h
      · exact hp i j hi' hj' h e
      · exact hp j i hj' hi' h e.symm
    · obtain ⟨rfl, rfl, rfl⟩ := n0_some.1 h
      exact b7.fr f8 fun e => by have e : x = a := e; omega
    · have := (n0_some.1 h).1; omega
    · have := (n0_some.1 h).1; omega
    · have hi' : i < ms.length := by omega
      have hg : ms.getD i 0 = ms[i] := by rw [List.getD_eq_getElem?_getD, List.getElem?_eq_getElem hi']; rfl
      show ls ≤ ms.getD i 0
      rw [hg]
      exact (hm ms[i] (List.getElem_mem hi')).1
end Go.Proofs.YtaacaokocamlcaaDoor.E
