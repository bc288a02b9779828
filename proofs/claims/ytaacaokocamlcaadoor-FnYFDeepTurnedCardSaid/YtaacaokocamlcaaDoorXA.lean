/-
  An x-fast trie made, of the universe's bits.
-/
import Derived.Test.YtaacaokocamlcaaDoorX9
namespace Go.Proofs.YtaacaokocamlcaaDoor.E
open Go
set_option linter.unusedSimpArgs false
set_option linter.unusedVariables false
set_option maxRecDepth 100000
set_option maxHeartbeats 4000000

def uni (B : Nat) : Value := if B = 8 then .iface 5 (.int .u8 0) else if B = 16 then .iface 23 (.int .u16 0) else if B = 32 then .iface 84 (.int .u32 0) else .iface 22 (.int .u64 0)
def Bits (B : Nat) : Prop := B = 8 ∨ B = 16 ∨ B = 32 ∨ B = 64
theorem F23_spec {k : Value → W} {w : World} {B : Nat} (h : Bits B) (hk : k (uni B) w) : F23 k (B : Nat) w := by
  unfold F23
  rcases h with rfl | rfl | rfl | rfl
  · rw [show (((8 : Nat) : Int) == 8) = true from rfl]; simp only [BIf_true]; exact hk
  · rw [show (((16 : Nat) : Int) == 8) = false from rfl, show (((16 : Nat) : Int) == 16) = true from rfl]; simp only [BIf_true, BIf_false]; exact hk
  · rw [show (((32 : Nat) : Int) == 8) = false from rfl, show (((32 : Nat) : Int) == 16) = false from rfl, show (((32 : Nat) : Int) == 32) = true from rfl]; simp only [BIf_true, BIf_false]; exact hk
  · rw [show (((64 : Nat) : Int) == 8) = false from rfl, show (((64 : Nat) : Int) == 16) = false from rfl, show (((64 : Nat) : Int) == 32) = false from rfl]; simp only [BIf_false]; exact hk
theorem F41_spec {k : Value → W} {w : World} {a B : Nat} (h : Bits B) (hB : Blk w a 82 [.slice none 0 0, .pointer none, .int .u64 0, .int .u8 0, .int .u8 0, .pointer none, .pointer none])
    (hk : ∀ ls mm r w', XH w' a ls B mm (N0 r) (fun _ _ => none) (fun _ => none) (fun _ => .nilIface) none none 0 → w.heap.size ≤ ls → w.heap.size ≤ r → (∀ i, i < B → w.heap.size ≤ mm i) → Fr (fun b => b = a) w w' → k (.tuple #[]) w') : F41 k (some ⟨a, 0, none⟩) (uni B) w := by
  unfold F41
  rcases h with rfl | rfl | rfl | rfl
  · refine ta (t8_8 w) (extb (exti ?_))
    simp only [BIf_true]
    exact F41_J1_spec (B := 8) (by decide) (by decide) hB hk
  · refine ta (t16_8 w) (extb (exti ?_))
    simp only [BIf_false]
    refine ta (t16_16 w) (extb (exti ?_))
    simp only [BIf_true]
    exact F41_J1_spec (B := 16) (by decide) (by decide) hB hk
  · refine ta (t32_8 w) (extb (exti ?_))
    simp only [BIf_false]
    refine ta (t32_16 w) (extb (exti ?_))
    simp only [BIf_false]
    refine ta (t32_32 w) (extb (exti ?_))
    simp only [BIf_true]
    exact F41_J1_spec (B := 32) (by decide) (by decide) hB hk
  · refine ta (t64_8 w) (extb (exti ?_))
    simp only [BIf_false]
    refine ta (t64_16 w) (extb (exti ?_))
    simp only [BIf_false]
    refine ta (t64_32 w) (extb (exti ?_))
    simp only [BIf_false]
    refine ta (t64_68 w) (extb (exti ?_))
    refine ta (t64_22 w) (extb (exti ?_))
    simp only [BIf_false]
    unfold F41_J2
    simp only [BIf_true]
    exact F41_J1_spec (B := 64) (by decide) (by decide) hB hk
/-- New. -/
theorem F22_spec {k : Value → W} {w : World} {B : Nat} (h : Bits B)
    (hk : ∀ a ls mm r w', XH w' a ls B mm (N0 r) (fun _ _ => none) (fun _ => none) (fun _ => .nilIface) none none 0 → w.heap.size ≤ a → w.heap.size ≤ ls → w.heap.size ≤ r → (∀ i, i < B → w.heap.size ≤ mm i) → Fr (fun _ => False) w w' → k (.pointer (some ⟨a, 0, none⟩)) w') : F22 k (uni B) w := by
  unfold F22
  refine new_intro fun a w1 e1 b1 f1 z1 => ?_
  refine F41_call (F41_spec h b1 fun ls mm r w2 H h1 h2 h3 f2 => back0 ?_)
  have := f1.size
  exact hk a ls mm r w2 H (by omega) (by omega) (by omega) (fun i hi => by have := h3 i hi; omega) (f1.trans f2 fun b e => .inr (by have e : b = a := e; omega))
end Go.Proofs.YtaacaokocamlcaaDoor.E
