/-
  The thin package's functions on bit lists: counts, ranges, differences. The straight parts were printed by this session's own program aw.py.
-/
import Derived.Test.YtopdlfecfgimpaaDoorOps2
namespace Go.Proofs.YtopdlfecfgimpaaDoor.E
open Go
set_option linter.unusedSimpArgs false
set_option linter.unusedVariables false
set_option maxRecDepth 100000
/-- BSUnionCardinality. -/
theorem C24 {n c lo hi : Nat} {p : Option Addr} {f : Nat → Bool} {m d lo2 hi2 : Nat} {q : Option Addr} {g : Nat → Bool} {k : Value → W} {w : World} (hn : n < 524288) (hs : BV w lo hi n p f) (hm : m < 524288) (ht : BV w lo2 hi2 m q g)
    (hk : ∀ w', Fr (fun _ => False) w w' → k (.int .u64 (cnt (max n m) (fun j => f j || g j) : Nat)) w') : F24 k n p (L n f).length c m q (L m g).length d w := by
  unfold F24
  refine new_intro fun n5 w1 e1 bn5 f1 z1 => ?_
  have fr := f1
  replace hs := hs.fr0 f1
  replace ht := ht.fr0 f1
  refine new_intro fun n6 w2 e2 bn6 f2 z2 => ?_
  replace fr := fr.trans f2 fun _ h => h.elim
  replace hs := hs.fr0 f2
  replace ht := ht.fr0 f2
  replace bn5 := bn5.fr f2 id
  refine drw_intro fun w3 f3 z3 => ?_
  replace fr := fr.trans f3 fun _ h => h.elim
  replace hs := hs.fr0 f3
  replace ht := ht.fr0 f3
  replace bn5 := bn5.fr f3 id
  replace bn6 := bn6.fr f3 id
  refine load_int bn5 rfl ?_
  refine load_slice bn5 rfl ?_
  refine load_int bn6 rfl ?_
  refine load_slice bn6 rfl ?_
  refine F29_call (F29_bv (by omega) hs fun b2 q3 w4 hB1 f4 hB1b hB1q => back_ptr ?_)
  replace fr := fr.trans f4 fun _ h => h.elim
  have z4 := f4.size
  replace hs := hs.fr0 f4
  replace ht := ht.fr0 f4
  replace bn5 := bn5.fr f4 id
  replace bn6 := bn6.fr f4 id
  refine Chk1_iff.2 ⟨by rw [bn6.cell]; rfl, ?_⟩
  refine Chk1_iff.2 ⟨by rw [bn6.cell]; rfl, ?_⟩
  refine F29_call (F29_bv (by omega) ht fun b5 q6 w5 hB4 f5 hB4b hB4q => back_ptr ?_)
  replace fr := fr.trans f5 fun _ h => h.elim
  have z5 := f5.size
  replace ht := ht.fr0 f5
  replace hB1 := hB1.fr f5 id id
  replace bn5 := bn5.fr f5 id
  replace bn6 := bn6.fr f5 id
  refine Chk1_iff.2 ⟨by rw [bn5.cell]; rfl, ?_⟩
  refine Chk1_iff.2 ⟨by rw [bn5.cell]; rfl, ?_⟩
  refine F45_call (F45_spec hB1 hB4 (by omega) (by omega) fun w6 f6 => back_int ?_)
  replace fr := fr.trans f6 fun _ h => h.elim
  have z6 := f6.size
  replace hB1 := hB1.fr f6 id id
  replace hB4 := hB4.fr f6 id id
  replace bn5 := bn5.fr f6 id
  replace bn6 := bn6.fr f6 id
  refine Chk1_iff.2 ⟨by rw [bn6.cell]; rfl, ?_⟩
  refine Chk1_iff.2 ⟨by rw [bn6.cell]; rfl, ?_⟩
  refine Chk1_iff.2 ⟨by rw [bn5.cell]; rfl, ?_⟩
  refine Chk1_iff.2 ⟨by rw [bn5.cell]; rfl, ?_⟩
  exact hk _ fr
/-- BSCount. -/
theorem C18 {n c lo hi : Nat} {p : Option Addr} {f : Nat → Bool} {k : Value → W} {w : World} (hn : n < 524288) (hs : BV w lo hi n p f)
    (hk : ∀ w', Fr (fun _ => False) w w' → k (.int .u64 (cnt n f : Nat)) w') : F18 k n p (L n f).length c w := by
  unfold F18
  refine new_intro fun n3 w1 e1 bn3 f1 z1 => ?_
  have fr := f1
  replace hs := hs.fr0 f1
  refine load_int bn3 rfl ?_
  refine load_slice bn3 rfl ?_
  refine F29_call (F29_bv (by omega) hs fun b2 q3 w2 hB1 f2 hB1b hB1q => back_ptr ?_)
  replace fr := fr.trans f2 fun _ h => h.elim
  have z2 := f2.size
  replace hs := hs.fr0 f2
  replace bn3 := bn3.fr f2 id
  refine F35_call (F35_spec hB1 (back_int ?_))
  exact hk _ fr
end Go.Proofs.YtopdlfecfgimpaaDoor.E
