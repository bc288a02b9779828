/-
  Maps in memory, told by the list of their entries in the order in which they came; look-ups, stores, deletions, and a loop's steps over a map, in those words.
-/
import Derived.Test.YtfokodpnoiilbaaGreatBlk
import Derived.Maps.RangeRun
import Derived.MapKept
namespace Go.Proofs.YtfokodpnoiilbaaGreat.E
open Go
set_option linter.unusedSectionVars false
set_option linter.unusedSimpArgs false

section
variable {P : Program} {K : Type} [DecidableEq K]

/-- The place of a key among entries, and what lies there. -/
def idx (a : K) : List (K × Value) → Nat → Option (Nat × Value)
  | [], _ => none
  | p :: l, i => if a = p.1 then some (i, p.2) else idx a l (i + 1)
def getL (a : K) : List (K × Value) → Option Value
  | [] => none
  | p :: l => if a = p.1 then some p.2 else getL a l
def putL (a : K) (v : Value) : List (K × Value) → List (K × Value)
  | [] => [(a, v)]
  | p :: l => if a = p.1 then (p.1, v) :: l else p :: putL a v l
def delL (a : K) : List (K × Value) → List (K × Value)
  | [] => []
  | p :: l => if a = p.1 then l else p :: delL a l

/-- How keys of one kind lie as values of the key's type. -/
structure KeyOk (P : Program) (kt : TypeId) (kv : K → Value) : Prop where
  check : ∀ b a w, (Instr.checkKey b 10000 kt (kv a)).run P w = .ok () w
  find : ∀ (a : K) (es : List MapEntry) (l : List (K × Value)) (w : World), es.map (fun e => (e.key, e.val)) = l.map (fun p => (kv p.1, p.2)) → (Instr.findKey kt (kv a) es).run P w = .ok (idx a l 0) w
  same : ∀ a, Instr.sameBits 10000 (kv a) (kv a) = true

theorem keyOk_of_now {kt : TypeId} {d : TypeDesc} {kv : K → Value} (hd : P.underlying kt = some d) (hc : ∀ b a w, (Instr.checkKey b 10000 kt (kv a)).run P w = .ok () w) (hs : ∀ a, Instr.sameBits 10000 (kv a) (kv a) = true)
    (h : ∀ a b, Instr.sameNow d (kv a) (kv b) = some (decide (a = b))) : KeyOk P kt kv := by
  refine ⟨hc, fun a es l w he => MapKept.run_findKey hd ?_, hs⟩
  suffices H : ∀ (es : List MapEntry) (l : List (K × Value)) (i : Nat), es.map (fun e => (e.key, e.val)) = l.map (fun p => (kv p.1, p.2)) → Instr.findNow d (kv a) es i = some (idx a l i) from H es l 0 he
  intro es
  induction es with
  | nil => intro l i he; cases l with
    | nil => rfl
    | cons p l => simp at he
  | cons e es ih => intro l i he; cases l with
    | nil => simp at he
    | cons p l =>
      simp only [List.map_cons, List.cons.injEq, Prod.mk.injEq] at he
      obtain ⟨⟨h1, h2⟩, h3⟩ := he
      simp only [Instr.findNow, h1, h, idx]
      by_cases hab : a = p.1
      · simp [hab, h2]
      · simp only [hab, decide_false, if_false]; exact ih l (i + 1) h3

theorem check_int {kt : TypeId} {q : IntKind} (hd : P.underlying kt = some (.int q)) (n : Nat) (b : Bool) (a : Int) (w : World) : (Instr.checkKey b (n + 1) kt (.int q a)).run P w = .ok () w := by simp [Instr.checkKey, run_underlying hd]
theorem check_string {kt : TypeId} (hd : P.underlying kt = some .string) (n : Nat) (b : Bool) (a : ByteArray) (w : World) : (Instr.checkKey b (n + 1) kt (.string a)).run P w = .ok () w := by simp [Instr.checkKey, run_underlying hd]
theorem check_iface {kt d : TypeId} {i : TypeInfo} {q : IntKind} {ms : Array (String × TypeId)} (hu : P.underlying kt = some (.interface ms)) (hd : P.underlying d = some (.int q)) (hi : P.info? d = some i) (hc : i.comparable = true) (n : Nat) (b : Bool) (a : Int) (w : World) :
    (Instr.checkKey b (n + 1 + 1) kt (.iface d (.int q a))).run P w = .ok () w := by
  unfold Instr.checkKey
  simp [run_underlying hu, run_typeInfo hi, hc, check_int hd]
theorem keyOk_int {kt : TypeId} {q : IntKind} (hd : P.underlying kt = some (.int q)) : KeyOk P kt (fun n : Int => Value.int q n) :=
  keyOk_of_now hd (fun b a w => check_int hd 9999 b a w) (fun a => by simp [Instr.sameBits]) (fun a b => by simp [Instr.sameNow]; rfl)
theorem beq_bytes (a b : ByteArray) : (a == b) = decide (a = b) := by
  obtain ⟨a⟩ := a; obtain ⟨b⟩ := b
  show (a == b) = _
  rw [Bool.eq_iff_iff, decide_eq_true_iff, beq_iff_eq]
  simp
theorem beq_self_eq_true' (a : ByteArray) : (a == a) = true := by rw [beq_bytes]; simp
theorem keyOk_string {kt : TypeId} (hd : P.underlying kt = some .string) : KeyOk P kt (fun s : ByteArray => Value.string s) :=
  keyOk_of_now hd (fun b a w => check_string hd 9999 b a w) (fun a => by unfold Instr.sameBits; exact beq_self_eq_true' a) (fun a b => by simp only [Instr.sameNow]; rw [beq_bytes])

theorem run_equalIn_int {t : TypeId} {q : IntKind} (hd : P.underlying t = some (.int q)) (n : Nat) (a b : Int) (w : World) : (Op.equalIn (n + 1) t (.int q a) (.int q b)).run P w = .ok (decide (a = b)) w := by
  unfold Op.equalIn
  simp [run_underlying hd]
  rfl
theorem run_equal_iface' {t d : TypeId} {i : TypeInfo} {q : IntKind} {ms : Array (String × TypeId)} (hu : P.underlying t = some (.interface ms)) (hd : P.underlying d = some (.int q)) (hi : P.info? d = some i) (hc : i.comparable = true) (n : Nat) (a b : Int) (w : World) :
    (Op.equalIn (n + 1 + 1) t (.iface d (.int q a)) (.iface d (.int q b))).run P w = .ok (decide (a = b)) w := by
  unfold Op.equalIn
  simp [run_underlying hu, run_typeInfo hi, hc, run_equalIn_int hd]
theorem run_equal_iface {t d : TypeId} {i : TypeInfo} {q : IntKind} {ms : Array (String × TypeId)} (hu : P.underlying t = some (.interface ms)) (hd : P.underlying d = some (.int q)) (hi : P.info? d = some i) (hc : i.comparable = true) (a b : Int) (w : World) :
    (Op.equal t (.iface d (.int q a)) (.iface d (.int q b))).run P w = .ok (decide (a = b)) w := by
  exact run_equal_iface' hu hd hi hc 9998 a b w

theorem keyOk_iface {kt d : TypeId} {i : TypeInfo} {q : IntKind} {ms : Array (String × TypeId)} (hu : P.underlying kt = some (.interface ms)) (hd : P.underlying d = some (.int q)) (hi : P.info? d = some i) (hc : i.comparable = true) :
    KeyOk P kt (fun n : Int => Value.iface d (.int q n)) := by
  refine ⟨fun b a w => ?_, fun a es l w he => ?_, fun a => ?_⟩
  · exact check_iface hu hd hi hc 9998 b a w
  · have hnow : ∀ (es : List MapEntry), es ≠ [] → Instr.findNow (.interface ms) (.iface d (.int q a)) es 0 = none := by
      intro es h
      cases es with
      | nil => exact absurd rfl h
      | cons e es => simp [Instr.findNow, Instr.sameNow]
    have hask : ∀ (es : List MapEntry) (l : List (Int × Value)) (i : Nat), es.map (fun e => (e.key, e.val)) = l.map (fun p => (Value.iface d (.int q p.1), p.2)) → (Instr.findAsking kt (.iface d (.int q a)) es i).run P w = .ok (idx a l i) w := by
      intro es
      induction es with
      | nil => intro l i he; cases l with
        | nil => rfl
        | cons p l => simp at he
      | cons e es ih => intro l i he; cases l with
        | nil => simp at he
        | cons p l =>
          simp only [List.map_cons, List.cons.injEq, Prod.mk.injEq] at he
          obtain ⟨⟨h1, h2⟩, h3⟩ := he
          simp only [Instr.findAsking, h1, Sem.run_bind, run_equal_iface hu hd hi hc, Result.andThen_ok, idx]
          by_cases hab : a = p.1
          · simp [hab, h2]
          · simp only [hab, decide_false, if_false, Bool.false_eq_true]; exact ih l (i + 1) h3
    unfold Instr.findKey
    simp only [Sem.run_bind, run_underlying hu, Result.andThen_ok]
    cases hes : es with
    | nil => subst hes; cases l with
      | nil => rfl
      | cons p l => simp at he
    | cons e es' =>
      rw [hnow (e :: es') (by simp), ← hes]
      exact hask es l 0 he
  · show Instr.sameBits (9999 + 1) _ _ = true
    simp [Instr.sameBits]

theorem idx_get (a : K) : ∀ (l : List (K × Value)) (i : Nat), (idx a l i).map (·.2) = getL a l
  | [], _ => rfl
  | p :: l, i => by unfold idx getL; split <;> simp [idx_get a l (i + 1)]
theorem idx_some {a : K} {v : Value} : ∀ {l : List (K × Value)} {i j : Nat}, idx a l i = some (j, v) → ∃ n, j = i + n ∧ l[n]? = some (a, v)
  | [], _, _, h => by cases h
  | p :: l, i, j, h => by
    unfold idx at h
    split at h
    · rename_i h1
      simp only [Option.some.injEq, Prod.mk.injEq] at h
      exact ⟨0, by omega, by cases p; simp_all⟩
    · obtain ⟨n, h1, h2⟩ := idx_some h
      exact ⟨n + 1, by omega, by simpa using h2⟩
theorem putL_modify {a : K} {v u : Value} : ∀ {l : List (K × Value)} {i j : Nat}, idx a l i = some (j, u) → putL a v l = l.modify (j - i) (fun p => (p.1, v)) ∧ i ≤ j
  | [], _, _, h => by cases h
  | p :: l, i, j, h => by
    unfold idx at h
    unfold putL
    split at h
    · rename_i h1
      simp only [Option.some.injEq, Prod.mk.injEq] at h
      obtain ⟨rfl, rfl⟩ := h
      refine ⟨?_, Nat.le_refl _⟩
      subst h1; simp
    · rename_i h1
      obtain ⟨h2, h3⟩ := putL_modify (v := v) h
      have e : j - i = (j - (i + 1)) + 1 := by omega
      rw [if_neg h1, h2, e, List.modify_succ_cons]
      exact ⟨rfl, by omega⟩
theorem putL_push {a : K} {v : Value} : ∀ {l : List (K × Value)} {i : Nat}, idx a l i = none → putL a v l = l ++ [(a, v)]
  | [], _, _ => rfl
  | p :: l, i, h => by
    unfold idx at h
    unfold putL
    split at h
    · cases h
    · rename_i h1; rw [if_neg h1, putL_push h]; rfl
theorem delL_erase {a : K} {u : Value} : ∀ {l : List (K × Value)} {i j : Nat}, idx a l i = some (j, u) → delL a l = l.eraseIdx (j - i) ∧ i ≤ j
  | [], _, _, h => by cases h
  | p :: l, i, j, h => by
    unfold idx at h
    unfold delL
    split at h
    · rename_i h1
      simp only [Option.some.injEq, Prod.mk.injEq] at h
      obtain ⟨rfl, rfl⟩ := h
      simp [h1]
    · rename_i h1
      obtain ⟨h2, h3⟩ := delL_erase h
      have e : j - i = (j - (i + 1)) + 1 := by omega
      rw [if_neg h1, h2, e, List.eraseIdx_cons_succ]
      exact ⟨rfl, by omega⟩
theorem delL_none {a : K} : ∀ {l : List (K × Value)} {i : Nat}, idx a l i = none → delL a l = l
  | [], _, _ => rfl
  | p :: l, i, h => by
    unfold idx at h
    unfold delL
    split at h
    · cases h
    · rename_i h1; rw [if_neg h1, delL_none h]

/-- Block b holds a map of these entries. -/
def MapB (w : World) (b : Nat) (kv : K → Value) (l : List (K × Value)) : Prop :=
  ∃ es clock, w.heap[b]? = some (.map es clock) ∧ es.toList.map (fun e => (e.key, e.val)) = l.map (fun p => (kv p.1, p.2)) ∧ (es.toList.map (·.born)).Pairwise (· < ·) ∧ ∀ e ∈ es.toList, e.born < clock

namespace MapB
variable {kv : K → Value} {l : List (K × Value)} {b : Nat} {w w' : World}
theorem lt (h : MapB w b kv l) : b < w.heap.size := by obtain ⟨es, c, h, _⟩ := h; exact (Array.getElem?_eq_some_iff.1 h).1
theorem fr {S : Nat → Prop} (h : MapB w b kv l) (f : Fr S w w') (hS : ¬ S b) : MapB w' b kv l := by
  have hl := h.lt
  obtain ⟨es, c, h1, h2⟩ := h
  exact ⟨es, c, (f.block b hl hS).trans h1, h2⟩
theorem not_blk {t : TypeId} {vs : List Value} {c : Nat} (h : MapB w b kv l) (h' : Blk w c t vs) : b ≠ c := by
  rintro rfl
  obtain ⟨es, c, h1, _⟩ := h
  unfold Blk at h'
  rw [h1] at h'; cases h'
theorem new (w : World) : MapB (w.alloc (.map #[] 0)) w.heap.size kv [] := ⟨#[], 0, heap_alloc_new w _, by simp, by simp, by simp⟩
end MapB

variable {kv : K → Value} {l : List (K × Value)} {b : Nat} {w : World}

theorem RawT_map {s : Sem Value} {f : Option Nat → W} {p : Option Nat} {w w' : World} (h : s.run P w = .ok (.map p) w') (hk : f p w') : RawT P s (.s (.one .map)) f w := ⟨(p, ()), w', h, hk⟩
theorem RawT_any {s : Sem Value} {f : Value → W} {v : Value} {w w' : World} (h : s.run P w = .ok v w') (hk : f v w') : RawT P s (.s (.one .any)) f w := ⟨(v, ()), w', h, hk⟩

theorem makeMap_intro {t : TypeId} {f : Option Nat → W} (kv : K → Value) (hk : ∀ n w', n = w.heap.size → MapB w' n kv [] → Fr (fun _ => False) w w' → w'.heap.size = n + 1 → f (some n) w') :
    RawT P (Instr.makeMap t none) (.s (.one .map)) f w :=
  RawT_map (w' := w.alloc (.map #[] 0)) (p := some w.heap.size) (by simp [Instr.makeMap]) (hk _ _ rfl (MapB.new w) (Fr.alloc _ _ _) (by simp))

theorem lookup_run {t kt el : TypeId} {z : Value} (ht : P.underlying t = some (.map kt el)) (Q : KeyOk P kt kv) (hz : (zeroValue el).run P w = .ok z w) (h : MapB w b kv l) (a : K) (ok : Bool) :
    (Instr.lookup t (.map (some b)) (kv a) ok).run P w = .ok (if ok then .tuple #[(getL a l).getD z, .bool (getL a l).isSome] else (getL a l).getD z) w := by
  obtain ⟨es, c, hb, he, _⟩ := h
  have hf := Q.find a es.toList l w he
  have hg := idx_get a l 0
  simp only [Instr.lookup, Sem.run_bind, run_underlying ht, Result.andThen_ok, MapKept.run_getObj_map hb, Q.check, Sem.run_pure]
  rw [hf]
  simp only [Result.andThen_ok]
  cases hi : idx a l 0 with
  | none => rw [hi] at hg; simp [← hg, hz]
  | some p => rw [hi] at hg; simp [← hg]
theorem lookup_nil {t kt el : TypeId} {z : Value} (ht : P.underlying t = some (.map kt el)) (Q : KeyOk P kt kv) (hz : (zeroValue el).run P w = .ok z w) (a : K) (ok : Bool) :
    (Instr.lookup t (.map none) (kv a) ok).run P w = .ok (if ok then .tuple #[z, .bool false] else z) w := by
  have hf := Q.find a [] [] w rfl
  simp only [Instr.lookup, Sem.run_bind, run_underlying ht, Result.andThen_ok, Q.check, Sem.run_pure]
  rw [hf]
  simp [idx, hz]

theorem mapUpdate_intro {t kt el : TypeId} {a : K} {v : Value} {k : W} (ht : P.underlying t = some (.map kt el)) (Q : KeyOk P kt kv) (h : MapB w b kv l)
    (hk : ∀ w', MapB w' b kv (putL a v l) → Fr (fun x => x = b) w w' → w'.heap.size = w.heap.size → k w') : RawU P (Instr.mapUpdate t (.map (some b)) (kv a) v) k w := by
  obtain ⟨es, c, hb, he, hp, hc⟩ := h
  have hf := Q.find a es.toList l w he
  have hset : ∀ o, (setObj b o).run P w = .ok () (ChangeMaps.setBlock w b o) := fun o => by simp [setObj, Sem.run, hb, ChangeMaps.setBlock]
  have hbs : b < w.heap.size := (Array.getElem?_eq_some_iff.1 hb).1
  have hat : ∀ o, (ChangeMaps.setBlock w b o).heap[b]? = some o := fun o => by simp [ChangeMaps.setBlock, hbs]
  have hfr : ∀ o, Fr (fun x => x = b) w (ChangeMaps.setBlock w b o) := fun o => ⟨rfl, rfl, rfl, by simp [ChangeMaps.setBlock], fun x _ hS => by simp [ChangeMaps.setBlock, Ne.symm hS]⟩
  have hsz : ∀ o, (ChangeMaps.setBlock w b o).heap.size = w.heap.size := fun o => by simp [ChangeMaps.setBlock]
  cases hi : idx a l 0 with
  | none =>
    refine ⟨ChangeMaps.setBlock w b (.map (es.push { key := kv a, val := v, born := c }) (c + 1)), ?_, hk _ ⟨_, _, hat _, ?_, ?_, ?_⟩ (hfr _) (hsz _)⟩
    · simp only [Instr.mapUpdate, Sem.run_bind, run_underlying ht, Result.andThen_ok, MapKept.run_getObj_map hb, Q.check]
      rw [hf, hi]; simp only [Result.andThen_ok]; exact hset _
    · rw [putL_push hi]; simp [he]
    · simp only [Array.toList_push, List.map_append, List.map_cons, List.map_nil, List.pairwise_append]
      refine ⟨hp, by simp, ?_⟩
      intro x hx y hy
      simp only [List.mem_map] at hx
      obtain ⟨e, he, rfl⟩ := hx
      simp only [List.mem_singleton] at hy
      subst hy; exact hc e he
    · intro e he
      simp only [Array.toList_push, List.mem_append, List.mem_singleton] at he
      rcases he with he | rfl
      · have := hc e he; omega
      · simp
  | some q =>
    obtain ⟨i, u⟩ := q
    obtain ⟨n, hn, hln⟩ := idx_some hi
    have hi0 : i = n := by omega
    subst hi0
    have hlen : es.toList.length = l.length := by simpa using congrArg List.length he
    have hil : i < es.size := by have := (List.getElem?_eq_some_iff.1 hln).1; simp at hlen; omega
    have hkey : es[i].key = kv a := by
      have := congrArg (fun l => l[i]?) he
      simp only [List.getElem?_map, hln, Option.map_some, Array.getElem?_toList, Array.getElem?_eq_getElem hil, Option.some.injEq, Prod.mk.injEq] at this
      exact this.1
    have hstay : (Instr.keyThatStays (kv a) (kv a)).run P w = .ok (kv a) w := by simp [Instr.keyThatStays, Q.same]
    have hmod : ∀ {β : Type} (f : MapEntry → β), (∀ e, f { e with key := kv a, val := v } = f e ∨ True) → True := fun _ _ => trivial
    refine ⟨ChangeMaps.setBlock w b (.map (es.modify i fun e => { e with key := kv a, val := v }) c), ?_, hk _ ⟨_, _, hat _, ?_, ?_, ?_⟩ (hfr _) (hsz _)⟩
    · simp only [Instr.mapUpdate, Sem.run_bind, run_underlying ht, Result.andThen_ok, MapKept.run_getObj_map hb, Q.check]
      rw [hf, hi]; simp only [Result.andThen_ok, Array.getElem?_eq_getElem hil, Option.map_some, Option.getD_some, hkey, Sem.run_bind, hstay]; exact hset _
    · rw [(putL_modify hi).1, Nat.sub_zero]
      apply List.ext_getElem?
      intro j
      have hj := congrArg (fun l => l[j]?) he
      simp only [List.getElem?_map, Array.getElem?_toList] at hj
      simp only [List.getElem?_map, Array.getElem?_toList, Array.getElem?_modify, List.getElem?_modify]
      by_cases hij : i = j
      · subst hij
        simp [hln, Array.getElem?_eq_getElem hil]
      · simp [hij, hj]
    · have : (es.modify i fun e => { e with key := kv a, val := v }).toList.map (·.born) = es.toList.map (·.born) := by
        apply List.ext_getElem?
        intro j
        simp only [List.getElem?_map, Array.getElem?_toList, Array.getElem?_modify]
        by_cases hij : i = j
        · subst hij; simp [Array.getElem?_eq_getElem hil]
        · simp [hij]
      rw [this]; exact hp
    · intro e he
      obtain ⟨j, hj, rfl⟩ := List.getElem_of_mem he
      simp only [Array.getElem_toList, Array.getElem_modify]
      have hj' : j < es.size := by simpa using hj
      split
      · exact hc es[j] (by simp)
      · exact hc es[j] (by simp)

theorem NextT_unit {s : Sem Next} {f : W} {w w' : World} (h : s.run P w = .ok (.value (.tuple #[])) w') (hk : f w') : NextT P s (.tup []) f w := by
  unfold NextT; rw [h]; exact back0 hk
theorem builtin_delete {ts : Array TypeId} {ty : TypeId} {cs : Array Bool} {args : Array Value} {w w' : World} {v : Value} (h : (Builtin.delete_ ts ty args).run P w = .ok v w') :
    (builtin .delete ts ty cs args).run P w = .ok (Next.value v) w' := by
  show (Sem.run P (do let a ← Builtin.delete_ ts ty args; pure (Next.value a)) w) = _
  simp [h]
theorem builtin_len {ts : Array TypeId} {ty : TypeId} {cs : Array Bool} {args : Array Value} {w w' : World} {v : Value} (h : (Builtin.len_ ts ty args).run P w = .ok v w') :
    (builtin .len ts ty cs args).run P w = .ok (Next.value v) w' := by
  show (Sem.run P (do let a ← Builtin.len_ ts ty args; pure (Next.value a)) w) = _
  simp [h]
theorem len_map {t kt el ty : TypeId} {cs : Array Bool} {f : Int → W} (ht : P.underlying t = some (.map kt el)) (h : MapB w b kv l) (hk : f (l.length : Nat) w) :
    NextT P (builtin .len #[t] ty cs [.map (some b)].toArray) (.s (.one (.int .i64))) f w := by
  obtain ⟨es, c, hb, he, _⟩ := h
  have hlen : es.size = l.length := by simpa using congrArg List.length he
  refine NextT_int (n := (l.length : Nat)) (builtin_len ?_) hk
  simp [Builtin.len_, run_underlying ht, MapKept.run_getObj_map hb, hlen, goInt]
theorem map_erase {α β : Type} (f : α → β) : ∀ (l : List α) (i : Nat), (l.eraseIdx i).map f = (l.map f).eraseIdx i
  | [], _ => rfl
  | _ :: _, 0 => rfl
  | a :: l, i + 1 => by simp [map_erase f l i]
theorem delete_intro {t u kt el ty : TypeId} {cs : Array Bool} {a : K} {k : W} (ht : P.underlying t = some (.map kt el)) (Q : KeyOk P kt kv) (h : MapB w b kv l)
    (hk : ∀ w', MapB w' b kv (delL a l) → Fr (fun x => x = b) w w' → w'.heap.size = w.heap.size → k w') : NextT P (builtin .delete #[t, u] ty cs [.map (some b), kv a].toArray) (.tup []) k w := by
  obtain ⟨es, c, hb, he, hp, hc⟩ := h
  have hf := Q.find a es.toList l w he
  have hset : ∀ o, (setObj b o).run P w = .ok () (ChangeMaps.setBlock w b o) := fun o => by simp [setObj, Sem.run, hb, ChangeMaps.setBlock]
  have hbs : b < w.heap.size := (Array.getElem?_eq_some_iff.1 hb).1
  have hat : ∀ o, (ChangeMaps.setBlock w b o).heap[b]? = some o := fun o => by simp [ChangeMaps.setBlock, hbs]
  have hfr : ∀ o, Fr (fun x => x = b) w (ChangeMaps.setBlock w b o) := fun o => ⟨rfl, rfl, rfl, by simp [ChangeMaps.setBlock], fun x _ hS => by simp [ChangeMaps.setBlock, Ne.symm hS]⟩
  have hsz : ∀ o, (ChangeMaps.setBlock w b o).heap.size = w.heap.size := fun o => by simp [ChangeMaps.setBlock]
  cases hi : idx a l 0 with
  | none =>
    refine NextT_unit (builtin_delete (w' := ChangeMaps.setBlock w b (.map es c)) ?_) (hk _ ⟨_, _, hat _, ?_, hp, hc⟩ (hfr _) (hsz _))
    · simp only [Builtin.delete_, List.getElem?_toArray, List.getElem?_cons_zero, List.getElem?_cons_succ, Sem.run_bind, run_underlying ht, Result.andThen_ok, MapKept.run_getObj_map hb, Q.check]
      simp [run_underlying ht, MapKept.run_getObj_map hb, Q.check, hf, hi, hset]
    · rw [delL_none hi]; exact he
  | some q =>
    obtain ⟨i, u'⟩ := q
    obtain ⟨n, hn, hln⟩ := idx_some hi
    have hi0 : i = n := by omega
    subst hi0
    have hE : (es.eraseIdxIfInBounds i).toList = es.toList.eraseIdx i := by
      simp [Array.eraseIdxIfInBounds]
      split
      · simp
      · rename_i h; rw [List.eraseIdx_of_length_le]; simpa using h
    refine NextT_unit (builtin_delete (w' := ChangeMaps.setBlock w b (.map (es.eraseIdxIfInBounds i) c)) ?_) (hk _ ⟨_, _, hat _, ?_, ?_, ?_⟩ (hfr _) (hsz _))
    · simp [Builtin.delete_, run_underlying ht, MapKept.run_getObj_map hb, Q.check, hf, hi, hset]
    · rw [(delL_erase hi).1, Nat.sub_zero, hE, map_erase, he, map_erase]
    · rw [hE, map_erase]; exact hp.sublist (List.eraseIdx_sublist _ _)
    · intro e he'
      rw [hE] at he'
      exact hc e (List.mem_of_mem_eraseIdx he')

/-- The loop's iterator, in block r: the map's entries at the places 'ts' have been taken. -/
def It (w : World) (r b : Nat) (kv : K → Value) (l : List (K × Value)) (ts : List Nat) : Prop :=
  ∃ es clock, w.heap[b]? = some (.map es clock) ∧ es.toList.map (fun e => (e.key, e.val)) = l.map (fun p => (kv p.1, p.2)) ∧ (es.toList.map (·.born)).Pairwise (· < ·) ∧ (∀ e ∈ es.toList, e.born < clock) ∧
    w.heap[r]? = some (.mapIter (some b) clock (ts.map fun i => (es.toList.map (·.born)).getD i 0).toArray clock) ∧ ts.Nodup ∧ ∀ i ∈ ts, i < l.length

namespace It
variable {r : Nat} {ts : List Nat}
theorem map (h : It w r b kv l ts) : MapB w b kv l := by obtain ⟨es, c, h1, h2, h3, h4, _⟩ := h; exact ⟨es, c, h1, h2, h3, h4⟩
theorem fr {S : Nat → Prop} {w' : World} (h : It w r b kv l ts) (f : Fr S w w') (hS : ¬ S b) (hS' : ¬ S r) : It w' r b kv l ts := by
  have hl := h.map.lt
  obtain ⟨es, c, h1, h2, h3, h4, h5, h6⟩ := h
  exact ⟨es, c, (f.block b hl hS).trans h1, h2, h3, h4, (f.block r (Array.getElem?_eq_some_iff.1 h5).1 hS').trans h5, h6⟩
theorem lt (h : It w r b kv l ts) : r < w.heap.size := by
  obtain ⟨es, c, h1, h2, h3, h4, h5, h6⟩ := h
  exact (Array.getElem?_eq_some_iff.1 h5).1
theorem nd (h : It w r b kv l ts) : ts.Nodup := by obtain ⟨es, c, h1, h2, h3, h4, h5, h6, h7⟩ := h; exact h6
theorem le (h : It w r b kv l ts) : ∀ i ∈ ts, i < l.length := by obtain ⟨es, c, h1, h2, h3, h4, h5, h6, h7⟩ := h; exact h7
end It

theorem range_intro {t kt el : TypeId} {f : Value → W} (ht : P.underlying t = some (.map kt el)) (h : MapB w b kv l)
    (hk : ∀ r w', r = w.heap.size → It w' r b kv l [] → Fr (fun _ => False) w w' → w'.heap.size = r + 1 → f (.pointer (some ⟨r, 0, none⟩)) w') : RawT P (Instr.range t (.map (some b))) (.s (.one .any)) f w := by
  have hl := h.lt
  obtain ⟨es, c, hb, he, hp, hc⟩ := h
  refine RawT_any (v := .pointer (some ⟨w.heap.size, 0, none⟩)) (w' := w.alloc (.mapIter (some b) c #[] c)) ?_ (hk _ _ rfl ⟨es, c, ((Fr.alloc (fun _ => False) w _).block b hl id).trans hb, he, hp, hc, heap_alloc_new w _, by simp, by simp⟩ (Fr.alloc _ _ _) (by simp))
  simp [Instr.range, run_underlying ht, MapKept.run_getObj_map hb]

theorem getD_get {l : List Nat} {i : Nat} (h : i < l.length) : l.getD i 0 = l[i] := by rw [List.getD_eq_getElem?_getD, List.getElem?_eq_getElem h, Option.getD_some]
theorem pw_inj {l : List Nat} (h : l.Pairwise (· < ·)) {i j : Nat} (hi : i < l.length) (hj : j < l.length) (he : l.getD i 0 = l.getD j 0) : i = j := by
  rw [getD_get hi, getD_get hj] at he
  rcases Nat.lt_trichotomy i j with h1 | h1 | h1
  · have := List.pairwise_iff_getElem.1 h i j hi hj h1; omega
  · exact h1
  · have := List.pairwise_iff_getElem.1 h j i hj hi h1; omega

/-- A step over the map: nothing is left, or one that has not been taken, whichever. -/
theorem next_intro {r ty : Nat} {ts : List Nat} {f : Value → W} (h : It w r b kv l ts)
    (hend : (∀ i, i < l.length → i ∈ ts) → f (.tuple #[.bool false]) w)
    (hstep : ∀ i (hi : i < l.length) w', i ∉ ts → It w' r b kv l (ts ++ [i]) → Fr (fun x => x = r) w w' → w'.heap.size = w.heap.size → f (.tuple #[.bool true, kv l[i].1, l[i].2]) w') :
    RawT P (Instr.next (.pointer (some ⟨r, 0, none⟩)) false ty) (.s (.one .any)) f w := by
  obtain ⟨es, c, hb, he, hp, hc, hr, hnd, hle⟩ := h
  have hlen : es.toList.length = l.length := by simpa using congrArg List.length he
  have hrb : r ≠ b := by rintro rfl; rw [hr] at hb; cases hb
  have hsz : r < w.heap.size := (Array.getElem?_eq_some_iff.1 hr).1
  have hget : ∀ i, i < l.length → ∃ e, es.toList[i]? = some e ∧ (es.toList.map (·.born)).getD i 0 = e.born := by
    intro i hi
    refine ⟨es.toList[i]'(by omega), List.getElem?_eq_getElem (by omega), ?_⟩
    rw [getD_get (by simp; simpa using (show i < es.toList.length by omega))]
    simp
  rcases run_next_at (P := P) w ty r b c c _ es c hr hb hc (Nat.le_refl _) with ⟨h0, hrun⟩ | ⟨e, hmem, w1, hw1, hrun⟩
  · refine RawT_any hrun (hend fun i hi => ?_)
    obtain ⟨e, hei, hbe⟩ := hget i hi
    have hm : e ∈ es.toList := List.mem_of_getElem? hei
    have hL : ¬ e ∈ (leftOf es (ts.map fun i => (es.toList.map (·.born)).getD i 0).toArray).toList := by
      have : (leftOf es (ts.map fun i => (es.toList.map (·.born)).getD i 0).toArray) = #[] := Array.eq_empty_of_size_eq_zero h0
      rw [this]; simp
    simp only [leftOf, Array.toList_filter, List.mem_filter, hm, true_and] at hL
    have hL' : ((ts.map fun i => (es.toList.map (·.born)).getD i 0).toArray.contains e.born) = true := by
      cases hcc : (ts.map fun i => (es.toList.map (·.born)).getD i 0).toArray.contains e.born with
      | true => rfl
      | false => exact absurd (by simp only [hcc, Bool.not_false]) hL
    rw [List.contains_toArray, List.contains_iff_mem, List.mem_map] at hL'
    obtain ⟨j, hj, hje⟩ := hL'
    have := pw_inj hp (i := j) (j := i) (by simpa using (show j < es.toList.length by have := hle j hj; omega)) (by simpa using (show i < es.toList.length by omega)) (by rw [hje, hbe])
    exact this ▸ hj
  · simp only [leftOf, Array.toList_filter, List.mem_filter] at hmem
    obtain ⟨hm, hns⟩ := hmem
    obtain ⟨i, hi', hie⟩ := List.getElem_of_mem hm
    have hi : i < l.length := by omega
    have hbi : (es.toList.map (·.born)).getD i 0 = e.born := by
      rw [getD_get (by simpa using hi')]; simp [← hie]
    have hnot : i ∉ ts := by
      intro hit
      simp only [List.contains_toArray, Bool.not_eq_true', ← Bool.not_eq_true, List.contains_iff_mem, List.mem_map] at hns
      exact hns ⟨i, hit, hbi⟩
    have hkv : (e.key, e.val) = (kv l[i].1, l[i].2) := by
      have := congrArg (fun l => l[i]?) he
      simp only [List.getElem?_map, List.getElem?_eq_getElem hi, List.getElem?_eq_getElem hi', Option.map_some, Option.some.injEq] at this
      rw [← hie]; exact this
    have hw : w1.heap = w.heap ∧ w1.os = w.os ∧ w1.tape = w.tape ∧ w1.output = w.output := by rcases hw1 with rfl | rfl <;> exact ⟨rfl, rfl, rfl, rfl⟩
    simp only [Prod.mk.injEq] at hkv
    rw [hkv.1, hkv.2] at hrun
    refine RawT_any hrun (hstep i hi _ hnot ⟨es, c, ?_, he, hp, hc, ?_, ?_, ?_⟩ ?_ ?_)
    · simp [ChangeMaps.setBlock, hw.1, hrb, hb]
    · simp [ChangeMaps.setBlock, hw.1, hsz]
      rw [← hbi]; simp [List.getD_eq_getElem?_getD]
    · rw [List.nodup_append]; exact ⟨hnd, by simp, by intro x hx y hy; simp at hy; subst hy; exact fun h => hnot (h ▸ hx)⟩
    · intro j hj; simp only [List.mem_append, List.mem_singleton] at hj; rcases hj with hj | rfl
      · exact hle j hj
      · exact hi
    · exact ⟨hw.2.1, hw.2.2.1, hw.2.2.2, by simp [ChangeMaps.setBlock, hw.1], fun x _ hS => by simp [ChangeMaps.setBlock, hw.1, Ne.symm hS]⟩
    · simp [ChangeMaps.setBlock, hw.1]

/-- The entry of the step just made, read again. -/
theorem entry_intro {r i : Nat} {ts : List Nat} {f : Value → W} (h : It w r b kv l (ts ++ [i])) (hi : i < l.length) (hk : f (.tuple #[kv l[i].1, l[i].2]) w) :
    RawT P (Instr.entry (.pointer (some ⟨r, 0, none⟩))) (.s (.one .any)) f w := by
  obtain ⟨es, c, hb, he, hp, hc, hr, hnd, hle⟩ := h
  have hlen : es.toList.length = l.length := by simpa using congrArg List.length he
  have hi' : i < es.toList.length := by omega
  have hkv : (es.toList[i].key, es.toList[i].val) = (kv l[i].1, l[i].2) := by
    have := congrArg (fun l => l[i]?) he
    simpa only [List.getElem?_map, List.getElem?_eq_getElem hi, List.getElem?_eq_getElem hi', Option.map_some, Option.some.injEq] using this
  simp only [Prod.mk.injEq] at hkv
  refine RawT_any (v := .tuple #[kv l[i].1, l[i].2]) (w' := w) ?_ hk
  rw [← hkv.1, ← hkv.2]
  have hr' : w.heap[r]? = some (.mapIter (some b) c ((ts.map fun i => (es.toList.map (·.born)).getD i 0).toArray.push es.toList[i].born) c) := by
    rw [hr]; simp
    have hi2 : i < es.size := by simpa using hi'
    simp [hi2]
  exact run_entry_at w r b c _ es c es.toList[i] hr' hb (List.getElem_mem hi') (hp.imp fun h => Nat.ne_of_lt h)
end
end Go.Proofs.YtfokodpnoiilbaaGreat.E
