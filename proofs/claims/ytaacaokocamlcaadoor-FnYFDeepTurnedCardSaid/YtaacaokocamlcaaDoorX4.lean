/-
  An x-fast trie in memory: its nodes, whose keys; successor.
-/
import Derived.Test.YtaacaokocamlcaaDoorX3
import Derived.Test.YtaacaokocamlcaaDoorFnsC
namespace Go.Proofs.YtaacaokocamlcaaDoor.E
open Go
set_option linter.unusedSimpArgs false
set_option linter.unusedVariables false
set_option maxRecDepth 100000
set_option maxHeartbeats 4000000

/-- An entry with its key. -/
inductive KP (w : World) : Value → Nat → Prop
  | item (k : Nat) (v : Int) : KP w (.iface 57 (.agg #[.int .u64 (k : Nat), .int .i64 v])) k
  | wrap {q k : Nat} {us : List Value} (h : Blk w q 107 (.int .u64 (k : Nat) :: us)) : KP w (.iface 108 (.pointer (some ⟨q, 0, none⟩))) k
theorem KP.fr {S : Nat → Prop} {w w' : World} {v : Value} {k : Nat} (h : KP w v k) (f : Fr S w w') (hS : ∀ b us, Blk w b 107 us → ¬ S b) : KP w' v k := by
  cases h with
  | item k v => exact .item k v
  | wrap h => exact .wrap (h.fr f (hS _ _ h))
theorem KP.fr0 {w w' : World} {v : Value} {k : Nat} (h : KP w v k) (f : Fr (fun _ => False) w w') : KP w' v k := h.fr f fun _ _ _ => id
theorem KP.one {w : World} {v : Value} {k : Nat} (h : KP w v k) : oneC v = true := by cases h <;> rfl
theorem KP.ne {w : World} {v : Value} {k : Nat} (h : KP w v k) : v ≠ .nilIface := by cases h <;> intro e <;> cases e
theorem NextT_enter {P : Program} {s : Sem Next} {r : RTy} {f : Fn W r.leaves} {g : FuncId} {args : Array Value} {w w' : World} (h : s.run P w = .ok (.enter g args) w') (hk : Calls P g args w' (Back r f)) : NextT P s r f w := by
  unfold NextT; rw [h]; exact hk
theorem meth57 (k v : Int) (w : World) : (callMethod (.iface 57 (.agg #[.int .u64 k, .int .i64 v])) "Key" [].toArray).run Tryd.prog w = .ok (.enter 82 #[.agg #[.int .u64 k, .int .i64 v]]) w := by kernel_rfl
theorem meth108 (p : Option Addr) (w : World) : (callMethod (.iface 108 (.pointer p)) "Key" [].toArray).run Tryd.prog w = .ok (.enter 84 #[.pointer p]) w := by kernel_rfl
theorem key_intro {f : Int → W} {w : World} {v : Value} {k : Nat} (h : KP w v k) (hk : ∀ w', Fr (fun _ => False) w w' → f (k : Nat) w') : NextT Tryd.prog (callMethod v "Key" [].toArray) (.s (.one (.int .u64))) f w := by
  cases h with
  | item k v =>
    refine NextT_enter (meth57 k v w) ?_
    refine F82_calls ?_
    unfold F82
    refine new_intro fun n w1 e1 b1 f1 z1 => ?_
    exact load_int (i := 0) b1 rfl (back_int (hk w1 f1))
  | wrap h =>
    refine NextT_enter (meth108 _ w) ?_
    refine F84_calls ?_
    unfold F84
    simp only [NN_mk]
    exact load_int (i := 0) h rfl (back_int (hk w (Fr.refl _ _)))
structure Nds (w : World) (B : Nat) (N c : Nd) (pa : Nat → Option Nat) (en : Nat → Value) : Prop where
  nd : ∀ {i p x}, N i p = some x → Blk w x 91 [en x, pO (c x 0), pO (c x 1), pO (pa x)]
  e0 : ∀ {i p x}, N i p = some x → i < B → en x = .nilIface
  eB : ∀ {k x}, N B k = some x → KP w (en x) k
  p0 : ∀ {p x}, N 0 p = some x → pa x = none
  pS : ∀ {i q x}, N (i + 1) q = some x → pa x = N i (q / 2)
section
variable {B : Nat} {N c : Nd} {pa : Nat → Option Nat} {en : Nat → Value} {mn mx : Option Nat} {w : World}
theorem Nds.fr {S : Nat → Prop} {w' : World} (h : Nds w B N c pa en) (f : Fr S w w') (hS : ∀ b us t, Blk w b t us → t = 91 ∨ t = 107 → ¬ S b) : Nds w' B N c pa en :=
  ⟨fun h1 => (h.nd h1).fr f (hS _ _ _ (h.nd h1) (.inl rfl)), h.e0, fun h1 => (h.eB h1).fr f fun b us hb => hS b us _ hb (.inr rfl), h.p0, h.pS⟩
theorem Nds.fr0 {w' : World} (h : Nds w B N c pa en) (f : Fr (fun _ => False) w w') : Nds w' B N c pa en := h.fr f fun _ _ _ _ _ => id
theorem T0.kinds (T : T0 B N c mn mx) {i p x s : Nat} (h : N i p = some x) (hs : s < 2) : c x s = none ∨ ∃ y, c x s = some y ∧ (In B N y ∨ ∃ k, N B k = some y) := by
  cases hc : c x s with
  | none => exact .inl rfl
  | some y =>
    refine .inr ⟨y, rfl, ?_⟩
    have hiB := (T.rng h).1
    rcases Nat.lt_or_ge i B with hi | hi
    · cases hn : N (i + 1) (2 * p + s) with
      | none => obtain ⟨k, hk, _⟩ := T.th h hs hi hn hc; exact .inr ⟨k, hk⟩
      | some z =>
        rcases Nat.lt_or_ge (i + 1) B with hl | hl
        · rw [T.ch h hs hl hn] at hc; cases hc; exact .inl ⟨_, _, hl, hn⟩
        · obtain ⟨l, hl2, h3⟩ := T.chl h hs (by omega) hn
          rw [hc] at hl2; cases hl2
          rcases h3 with rfl | ⟨k, hk, _⟩
          · exact .inr ⟨_, by rw [← show i + 1 = B by omega]; exact hn⟩
          · exact .inr ⟨k, hk⟩
    · have : i = B := by omega
      subst this
      obtain ⟨k, hk, _⟩ := T.lf h hs hc
      exact .inr ⟨k, hk⟩
/-- isInternal. -/
theorem F62_spec {k : Value → W} {o : Option Nat} (H : Nds w B N c pa en) (T : T0 B N c mn mx) (ho : o = none ∨ ∃ y, o = some y ∧ (In B N y ∨ ∃ q, N B q = some y)) (hk : ∀ b : Bool, (b = true ↔ ∃ y, o = some y ∧ In B N y) → k (.bool b) w) : F62 k (oA o) w := by
  unfold F62
  rcases ho with rfl | ⟨y, rfl, ⟨j, p, hj, h⟩ | ⟨q, h⟩⟩
  · simp only [oA_none, Option.isNone_none, BIf_true]
    exact hk false (by simp)
  · simp only [oA_some, Option.isNone_some, BIf_false, NN_mk]
    refine load_any (i := 0) (H.nd h) rfl ?_
    rw [H.e0 h hj, IfaceNil_nil]
    exact hk true ⟨fun _ => ⟨y, rfl, j, p, hj, h⟩, fun _ => rfl⟩
  · simp only [oA_some, Option.isNone_some, BIf_false, NN_mk]
    refine load_any (i := 0) (H.nd h) rfl ?_
    have := hk false ⟨(fun h => by cases h), fun ⟨z, hz, hi⟩ => by cases hz; exact absurd hi (T.notIn h)⟩
    have hK := H.eB h
    generalize en y = e at hK
    cases hK <;> exact this
/-- isLeaf. -/
theorem F52_spec {k : Value → W} {o : Option Nat} (H : Nds w B N c pa en) (T : T0 B N c mn mx) (ho : o = none ∨ ∃ y, o = some y ∧ (In B N y ∨ ∃ q, N B q = some y)) (hk : ∀ b : Bool, (b = true ↔ ∃ y q, o = some y ∧ N B q = some y) → k (.bool b) w) : F52 k (oA o) w := by
  unfold F52
  cases o with
  | none =>
    simp only [oA_none, Option.isNone_none, BIf_true]
    exact hk false (by simp)
  | some y =>
    simp only [oA_some, Option.isNone_some, BIf_false]
    refine F62_call (F62_spec (o := some y) H T ho fun b hb => back_bool (hk _ ?_))
    rcases ho with h | ⟨z, hz, ho⟩
    · cases h
    · cases hz
      constructor
      · intro h
        have hb' : b = false := by cases b <;> simp_all
        rcases ho with h | ⟨q, h⟩
        · have := hb.2 ⟨y, rfl, h⟩; rw [hb'] at this; cases this
        · exact ⟨y, q, rfl, h⟩
      · rintro ⟨z, q, hz, h⟩
        cases hz
        cases b with
        | false => rfl
        | true => obtain ⟨z, hz, hi⟩ := hb.1 rfl; cases hz; exact absurd hi (T.notIn h)
end
end Go.Proofs.YtaacaokocamlcaaDoor.E
