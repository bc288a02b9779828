/-
  Plus trees: a leaf takes a key; nodes that are full; nodes that are split.
-/
import Derived.Test.YtofnapddoiodkaaPtM
namespace Go.Proofs.Ytofnapddoiodkaa.E
open Go
set_option linter.unusedSimpArgs false
set_option linter.unusedVariables false
set_option maxRecDepth 100000
set_option maxHeartbeats 4000000

def has (k : Int) (l : List KV) : Bool := l.any fun y => decide (y.1 = k)
theorem has_iff {k : Int} {l : List KV} : has k l = true ↔ ∃ y ∈ l, y.1 = k := by simp [has]
theorem has_false {k : Int} {l : List KV} : has k l = false ↔ ∀ y ∈ l, y.1 ≠ k := by simp [has]
theorem kvs_one (l : List KV) : ∀ u ∈ kvs l, u.oneCell' = true := fun u hu => by
  obtain ⟨x, _, rfl⟩ := List.mem_map.1 hu; rfl
theorem kvs_take (l : List KV) (n : Nat) : (kvs l).take n = kvs (l.take n) := List.map_take.symm
theorem kvs_drop (l : List KV) (n : Nat) : (kvs l).drop n = kvs (l.drop n) := List.map_drop.symm
theorem kvs_app (a b : List KV) : kvs (a ++ b) = kvs a ++ kvs b := List.map_append
theorem cmpI_zero {a b : Int} : (cmpI a b == 0) = decide (b = a) := by
  unfold cmpI
  split
  · rename_i h; have : b ≠ a := by omega
    simp [this]
  · split
    · have : b ≠ a := by omega
      simp [this]
    · have : b = a := by omega
      simp [this]
section
variable {w : World} {S : Nat}
/-- A leaf takes a key. -/
theorem F19_spec {k : Value → W} {l : Lf} {tp : Option Addr} {x : KV} (h : LfM w S l) (s : Srt l.ks) (hl : l.ks.length < S) (hS : S < 4294967296)
    (hk : ∀ w', LfM w' S { l with ks := puts x l.ks } → Fr (fun b => b = l.b ∨ b = l.q) w w' → k (.bool (!has x.1 l.ks)) w') : F19 k (some ⟨l.b, 0, none⟩) tp (kv x) w := by
  have hbq : l.b ≠ l.q := fun e => by
    obtain ⟨us, hu⟩ := h.q.blk'
    have := h.a
    rw [e] at this
    exact absurd (this.unique hu).1 (by decide)
  unfold F19
  rw [NN_mk]
  refine load_slice (i := 1) h.a rfl ?_
  refine F23_call (F23_spec h.q s (by omega) fun w1 f1 => back_int ?_)
  have h := h.fr f1 id id
  rw [NN_mk]
  refine load_slice (i := 1) h.a rfl ?_
  obtain ⟨hp1, hp2⟩ := pos_cases (q := x) s
  have hpl := pos_le x.1 l.ks
  rcases hp2 with ⟨e, hlt, hP⟩ | ⟨y, hy, e, hmem, hP⟩ | ⟨y, hy, hlt, hne, hP⟩
  · rw [e, show (((l.ks.length : Nat) : Int) == ((l.ks.length : Nat) : Int)) = true from beq_self_eq_true _, BIf_true, NN_mk]
    refine load_slice (i := 1) h.a rfl ?_
    obtain ⟨i48, g1, g2, g3, g4⟩ := inf48
    refine append_room und76 g1 g2 g3 rfl h.q (v := kv x) rfl rfl hl fun w2 f2 o2 => ?_
    have hB := h.a.fr f2 hbq
    rw [NN_mk]
    refine store_intro (i := 1) hB (by simp) rfl fun w3 b3 f3 z3 => ?_
    unfold F19_J1
    have hf : has x.1 l.ks = false := has_false.2 fun y hy => by have := hlt y hy; omega
    have := hk w3 ⟨?_, ?_⟩ (((f1.mono fun _ h => h.elim).trans f2 fun b h => .inl (.inr h)).trans f3 fun b h => .inl (.inl h))
    · rw [hf] at this
      exact this
    · rw [hP, List.length_append]; exact b3
    · rw [hP, List.length_append, kvs_app]
      exact o2.fr f3 fun b hb => by rw [bl_q.1 hb]; exact Ne.symm hbq
  · have hlt : pos x.1 l.ks < l.ks.length := (List.getElem?_eq_some_iff.1 hy).1
    rw [show (((pos x.1 l.ks : Nat) : Int) == ((l.ks.length : Nat) : Int)) = false by rw [beq_eq_false_iff_ne]; omega, BIf_false, NN_mk]
    refine load_slice (i := 1) h.a rfl ?_
    rw [NN_mk, Req_iff, Int.toNat_natCast, add_mk, Nat.zero_add]
    refine ⟨by omega, LoadT_any.2 ⟨kv y, by rw [h.q.cell hlt, kvs_get, hy]; rfl, ?_⟩⟩
    refine cmpK fun w2 f2 => ?_
    have h := h.fr f2 id id
    rw [cmpI_zero, decide_eq_true (show x.1 = y.1 from e.symm), BIf_true, NN_mk]
    refine load_slice (i := 1) h.a rfl ?_
    rw [NN_mk, Req_iff, add_mk, Nat.zero_add]
    refine ⟨by omega, rfl, ?_⟩
    obtain ⟨rest, hq, hqc, hqm⟩ := h.q.full
    refine store_intro hq (by simp; omega) rfl fun w3 b3 f3 z3 => ?_
    rw [List.set_append_left _ _ (by simpa using hlt)] at b3
    unfold F19_J1
    have hf : has x.1 l.ks = true := has_iff.2 ⟨y, hmem, e⟩
    have := hk w3 ⟨?_, ?_⟩ (((f1.mono fun _ h => h.elim).trans f2 fun b h => h.elim).trans f3 fun b h => .inl (.inr h))
    · rw [hf] at this
      exact this
    · rw [hP, List.length_set]; exact h.a.fr f3 hbq
    · rw [hP, List.length_set, show kvs (l.ks.set (pos x.1 l.ks) x) = (kvs l.ks).set (pos x.1 l.ks) (kv x) from List.map_set]
      exact Own.mk' b3 (by simp) (by simpa using hqc) hqm
  · have hlt' : pos x.1 l.ks < l.ks.length := (List.getElem?_eq_some_iff.1 hy).1
    rw [show (((pos x.1 l.ks : Nat) : Int) == ((l.ks.length : Nat) : Int)) = false by rw [beq_eq_false_iff_ne]; omega, BIf_false, NN_mk]
    refine load_slice (i := 1) h.a rfl ?_
    rw [NN_mk, Req_iff, Int.toNat_natCast, add_mk, Nat.zero_add]
    refine ⟨by omega, LoadT_any.2 ⟨kv y, by rw [h.q.cell hlt', kvs_get, hy]; rfl, ?_⟩⟩
    refine cmpK fun w2 f2 => ?_
    have h := h.fr f2 id id
    rw [cmpI_zero, decide_eq_false (show ¬ x.1 = y.1 by omega), BIf_false, NN_mk]
    have hq := h.q
    rw [← kvs_length] at hq
    refine F24_call (F24_spec (o := 1) h.a (by rw [kvs_length]; rfl) hq hbq (by rw [kvs_length]; exact hl) hS (by rw [kvs_length]; omega) (fun u hu => ?_) rfl rfl fun w3 f3 b3 o3 => back0 ?_)
    · rcases List.mem_cons.1 hu with rfl | hu
      · rfl
      · exact kvs_one _ u hu
    unfold F19_J1
    have hf : has x.1 l.ks = false := has_false.2 hne
    rw [kvs_length] at b3 o3
    have hlen : (puts x l.ks).length = l.ks.length + 1 := by rw [hP]; simp; omega
    have := hk w3 ⟨?_, ?_⟩ (((f1.mono fun _ h => h.elim).trans f2 fun b h => h.elim).trans f3 fun b h => .inl h)
    · rw [hf] at this
      exact this
    · rw [hlen]; exact b3
    · rw [hlen, hP, kvs_app, ← kvs_take]
      rw [kvs_drop] at o3
      exact o3

/-! ## Full? -/
def pkg (m : String) : String := "given.example/pub-spokeshave/pub/godatastructures/btree/plus." ++ m
theorem meth_n68 (p : Option Addr) (n : Int) (w : World) : (callMethod (.iface 68 (.pointer p)) "given.example/pub-spokeshave/pub/godatastructures/btree/plus.needsSplit" [.int .u64 n].toArray).run Try.prog w = .ok (.enter 47 #[.pointer p, .int .u64 n]) w := by kernel_rfl
theorem meth_n83 (p : Option Addr) (n : Int) (w : World) : (callMethod (.iface 83 (.pointer p)) "given.example/pub-spokeshave/pub/godatastructures/btree/plus.needsSplit" [.int .u64 n].toArray).run Try.prog w = .ok (.enter 53 #[.pointer p, .int .u64 n]) w := by kernel_rfl
theorem meth_s68 (p : Option Addr) (w : World) : (callMethod (.iface 68 (.pointer p)) "given.example/pub-spokeshave/pub/godatastructures/btree/plus.split" [].toArray).run Try.prog w = .ok (.enter 49 #[.pointer p]) w := by kernel_rfl
theorem meth_s83 (p : Option Addr) (w : World) : (callMethod (.iface 83 (.pointer p)) "given.example/pub-spokeshave/pub/godatastructures/btree/plus.split" [].toArray).run Try.prog w = .ok (.enter 54 #[.pointer p]) w := by kernel_rfl
theorem meth_i68 (p tp : Option Addr) (x : KV) (w : World) : (callMethod (.iface 68 (.pointer p)) "given.example/pub-spokeshave/pub/godatastructures/btree/plus.insert" [.pointer tp, kv x].toArray).run Try.prog w = .ok (.enter 19 #[.pointer p, .pointer tp, kv x]) w := by kernel_rfl
theorem meth_i83 (p tp : Option Addr) (x : KV) (w : World) : (callMethod (.iface 83 (.pointer p)) "given.example/pub-spokeshave/pub/godatastructures/btree/plus.insert" [.pointer tp, kv x].toArray).run Try.prog w = .ok (.enter 52 #[.pointer p, .pointer tp, kv x]) w := by kernel_rfl
theorem meth_f68 (p : Option Addr) (x : KV) (w : World) : (callMethod (.iface 68 (.pointer p)) "given.example/pub-spokeshave/pub/godatastructures/btree/plus.find" [kv x].toArray).run Try.prog w = .ok (.enter 46 #[.pointer p, kv x]) w := by kernel_rfl
theorem meth_f83 (p : Option Addr) (x : KV) (w : World) : (callMethod (.iface 83 (.pointer p)) "given.example/pub-spokeshave/pub/godatastructures/btree/plus.find" [kv x].toArray).run Try.prog w = .ok (.enter 51 #[.pointer p, kv x]) w := by kernel_rfl
theorem wrap_len {n : Nat} (h : n < 4294967296) : IntKind.wrap .u64 ((n : Nat) : Int) = ((n : Nat) : Int) := wrap_u64 (by omega) (by omega)
theorem full_spec {f : Bool → W} (hS : S < 4294967296) : ∀ {n : Nat} {t : Tr n}, Mm w S n t → nk n t < 4294967296 → f (decide (S ≤ nk n t)) w →
    NextT Try.prog (callMethod (ref n t) "given.example/pub-spokeshave/pub/godatastructures/btree/plus.needsSplit" [.int .u64 ((S : Nat) : Int)].toArray) (.s (.one .bool)) f w
  | 0, l, h, hl, hk => by
    have h : LfM w S l := h
    refine NextT_enter (meth_n68 _ _ w) (F47_calls ?_)
    unfold F47
    rw [NN_mk]
    refine load_slice (i := 1) h.a rfl (bind_intro ?_)
    have hl' : (Lf.ks l).length < 4294967296 := hl
    rw [wrap_len hl', show decide (((Lf.ks l).length : Int) ≥ ((S : Nat) : Int)) = decide (S ≤ nk 0 l) from decide_eq_decide.2 (by show ((Lf.ks l).length : Int) ≥ _ ↔ S ≤ (Lf.ks l).length; omega)]
    exact back_bool hk
  | n + 1, t, h, hl, hk => by
    refine NextT_enter (meth_n83 _ _ w) (F53_calls ?_)
    unfold F53
    rw [NN_mk]
    refine load_slice (i := 0) h.1.a rfl (bind_intro ?_)
    have hl' : t.1.ks.length < 4294967296 := hl
    rw [wrap_len hl', show decide ((t.1.ks.length : Int) ≥ ((S : Nat) : Int)) = decide (S ≤ nk (n + 1) t) from decide_eq_decide.2 (by show (t.1.ks.length : Int) ≥ _ ↔ S ≤ t.1.ks.length; omega)]
    exact back_bool hk

/-! ## Splits -/
/-- A copy into a slice that was just made. -/
theorem cpy_own {P : Program} {dT sT ty elem : TypeId} {cs : Array Bool} {f : Int → W} {w : World} {q qs o n m sLen sCap l c : Nat} {all : List Value} {z : Value}
    (hu : P.underlying dT = some (.slice elem)) (hs : (P.info? elem).map (·.size) = some 1) (hB : Blk w q elem (List.replicate m z)) (hO : Own w elem (some ⟨qs, 0, none⟩) l c all) (hn : n ≤ sLen) (ho : o + n ≤ l) (hm : n ≤ m) (hmx : m ≤ maxLen)
    (h1 : ∀ v ∈ all, v.oneCell' = true) (hk : ∀ w', Own w' elem (some ⟨q, 0, none⟩) n m ((all.drop o).take n) → Fr (fun b => b = q) w w' → w'.heap.size = w.heap.size → f (n : Nat) w') :
    NextT P (builtin .copy #[dT, sT] ty cs [.slice (some ⟨q, 0, none⟩) n m, .slice (some ⟨qs, o, none⟩) sLen sCap].toArray) (.s (.one (.int .i64))) f w := by
  have hall := hO.1
  have hlen : ((all.drop o).take n).length = n := by simp; omega
  refine copy_intro (src := (all.drop o).take n) hu hs hB (by rw [hlen]; omega) (fun j v hj => ?_) (by rw [hlen]; simp; omega) (fun v hv => h1 v (List.mem_of_mem_drop (List.mem_of_mem_take hv))) fun w' b' f' z' => ?_
  · rw [add_mk]
    have hj2 : j < n := by have := (List.getElem?_eq_some_iff.1 hj).1; omega
    rw [hO.cell (by omega)]
    rw [List.getElem?_take, if_pos hj2, List.getElem?_drop] at hj
    exact hj
  · rw [List.take_zero, List.nil_append] at b'
    have := hk w' (Own.mk' b' hlen (by rw [List.length_append, hlen, List.length_drop, List.length_replicate, Nat.zero_add]; omega) hmx) f' z'
    rw [hlen]; exact this
theorem mk48 {f : Option Addr → Nat → Nat → W} {w : World} (n m : Nat) {kl kc : IntKind} (hm : m ≤ 4294967296) (hnm : n ≤ m)
    (hk : ∀ q w', q = w.heap.size → Fr (fun _ => False) w w' → Own w' 48 (some ⟨q, 0, none⟩) n m (List.replicate n .nilIface) → Blk w' q 48 (List.replicate m .nilIface) → w'.heap.size = w.heap.size + 1 → f (some ⟨q, 0, none⟩) n m w') :
    RawT Try.prog (Instr.makeSlice 76 (.int kl (n : Int)) (.int kc (m : Int))) (.s (.one .slice)) f w := by
  obtain ⟨i, g1, g2, g3, g4⟩ := inf48
  exact make_intro n m und76 g1 g2 g3 rfl (by omega) hm hnm (hk _ · rfl)
theorem mk62 {f : Option Addr → Nat → Nat → W} {w : World} (n m : Nat) {kl kc : IntKind} (hm : m ≤ 4294967296) (hnm : n ≤ m)
    (hk : ∀ q w', q = w.heap.size → Fr (fun _ => False) w w' → Own w' 62 (some ⟨q, 0, none⟩) n m (List.replicate n .nilIface) → Blk w' q 62 (List.replicate m .nilIface) → w'.heap.size = w.heap.size + 1 → f (some ⟨q, 0, none⟩) n m w') :
    RawT Try.prog (Instr.makeSlice 86 (.int kl (n : Int)) (.int kc (m : Int))) (.s (.one .slice)) f w := by
  obtain ⟨i, g1, g2, g3, g4⟩ := inf62
  exact make_intro n m und86 g1 g2 g3 rfl (by omega) hm hnm (hk _ · rfl)
theorem hsz48 : (Try.prog.info? 48).map (·.size) = some 1 := by kernel_rfl
theorem hsz62 : (Try.prog.info? 62).map (·.size) = some 1 := by kernel_rfl
theorem half {n : Nat} (h : n < 4294967296) : quoI .i64 ((n : Nat) : Int) 2 = ((n / 2 : Nat) : Int) := by
  rw [quoI_i64 (by omega) (by omega) (by omega)]; omega
theorem sliceA0 {q c : Nat} : sliceA (some ⟨q, 0, none⟩) 0 c 1 = some ⟨q, 0, none⟩ := by
  unfold sliceA
  split
  · rfl
  · rw [Option.map_some, add_mk]
theorem sliceAi {q i c : Nat} (h : i < c) : sliceA (some ⟨q, 0, none⟩) i c 1 = some ⟨q, i, none⟩ := by
  unfold sliceA
  rw [if_neg (by omega), Option.map_some, add_mk]; simp
theorem F49_spec {k : Value → W} {l : Lf} {m : KV} (h : LfM w S l) (h2 : 2 ≤ l.ks.length) (hl : l.ks.length ≤ S) (hS : S < 4294967296) (hm : l.ks[l.ks.length / 2]? = some m)
    (hk : ∀ w' b q q', LfM w' S ⟨b, q, some l.b, l.ks.take (l.ks.length / 2)⟩ → LfM w' S ⟨l.b, q', l.p, l.ks.drop (l.ks.length / 2)⟩ → w.heap.size ≤ b → w.heap.size ≤ q → w.heap.size ≤ q' → [b, q, l.b, q'].Nodup → Fr (fun b => b = l.b) w w' →
      k (.tuple #[kv m, .iface 68 (.pointer (some ⟨b, 0, none⟩)), .iface 68 (.pointer (some ⟨l.b, 0, none⟩))]) w') : F49 k (some ⟨l.b, 0, none⟩) w := by
  have hmx : S ≤ maxLen := by simp only [maxLen]; omega
  have hlt := h.a.lt
  unfold F49
  rw [NN_mk]
  refine load_slice (i := 1) h.a rfl ?_
  rw [decide_eq_false (show ¬ ((l.ks.length : Nat) : Int) < 2 by omega), BIf_false, NN_mk]
  refine load_slice (i := 1) h.a rfl ⟨by omega, bind_intro ?_⟩
  rw [half (by omega), NN_mk]
  generalize hi : l.ks.length / 2 = i at *
  refine load_slice (i := 1) h.a rfl ?_
  rw [NN_mk, Req_iff, Int.toNat_natCast, add_mk, Nat.zero_add]
  refine ⟨by omega, LoadT_any.2 ⟨kv m, by rw [h.q.cell (by omega), kvs_get, hm]; rfl, ?_⟩⟩
  rw [NN_mk]
  refine load_slice (i := 1) h.a rfl ?_
  refine mk48 i S (by omega) (by omega) fun q w1 eq f1 o1 b1 z1 => ?_
  refine drw_intro fun w2 f2 z2 => ?_
  have f02 := f1.trans f2 fun _ h => h.elim
  have h' := h.fr f02 id id
  have b1 := b1.fr f2 id
  rw [NN_mk]
  refine load_slice (i := 1) h'.a rfl ?_
  rw [NN_mk]
  refine load_slice (i := 1) h'.a rfl ?_
  rw [subI_i64 (by omega) (by omega), show ((l.ks.length : Nat) : Int) - ((i : Nat) : Int) = ((l.ks.length - i : Nat) : Int) by omega]
  refine mk48 (l.ks.length - i) S (by omega) (by omega) fun q' w3 eq' f3 o3 b3 z3 => ?_
  have h' := h'.fr f3 id id
  have b1 := b1.fr f3 id
  have f03 := f02.trans f3 fun _ h => h.elim
  refine chk (i := 1) h'.a rfl (chk (i := 1) h'.a rfl ?_)
  rw [NN_mk]
  refine load_slice (i := 1) h'.a rfl ⟨by omega, ?_⟩
  have hqb : q ≠ l.b := by omega
  have hqq : q ≠ l.q := by have := h.q.lt (b := l.q) ⟨_, rfl, rfl⟩; omega
  have hqb' : q' ≠ l.b := by omega
  have hqq' : q' ≠ l.q := by have := h.q.lt (b := l.q) ⟨_, rfl, rfl⟩; omega
  rw [sliceA0, Nat.sub_zero]
  refine cpy_own und76 hsz48 b1 h'.q (Nat.le_refl _) (by omega) (by omega) hmx (kvs_one _) fun w4 o4 f4 z4 => ?_
  have h' := h'.fr f4 (Ne.symm hqb) (Ne.symm hqq)
  have b3 := b3.fr f4 (show ¬ q' = q by omega)
  rw [NN_mk]
  refine load_slice (i := 1) h'.a rfl ⟨by omega, ?_⟩
  rw [sliceAi (by omega)]
  refine cpy_own und76 hsz48 b3 h'.q (Nat.le_refl _) (by omega) (by omega) hmx (kvs_one _) fun w5 o5 f5 z5 => ?_
  have h' := h'.fr f5 (Ne.symm hqb') (Ne.symm hqq')
  have o4 := o4.fr f5 fun b hb => by rw [bl_q.1 hb]; show ¬ q = q'; omega
  rw [NN_mk]
  refine store_intro (i := 1) h'.a (by simp) rfl fun w6 b6 f6 z6 => ?_
  have o4 := o4.fr f6 fun b hb => by rw [bl_q.1 hb]; exact hqb
  have o5 := o5.fr f6 fun b hb => by rw [bl_q.1 hb]; exact hqb'
  refine new_intro fun nb w7 e7 b7 f7 z7 => ?_
  have o4 := o4.fr f7 fun _ _ => id
  have o5 := o5.fr f7 fun _ _ => id
  have b6 := b6.fr f7 id
  rw [List.drop_zero, kvs_take] at o4
  rw [kvs_drop, kvs_take, List.take_of_length_le (by simp)] at o5
  have el : (l.ks.take i).length = i := by simp; omega
  have er : (l.ks.drop i).length = l.ks.length - i := by simp
  refine hk w7 nb q q' ⟨?_, ?_⟩ ⟨?_, ?_⟩ (by omega) (by omega) (by omega) ?_ ?_
  · rw [el]; exact b7
  · rw [el]; exact o4
  · rw [er]; exact b6
  · rw [er]; exact o5
  · simp only [List.nodup_cons, List.mem_cons, List.not_mem_nil, or_false, not_false_eq_true, List.nodup_nil, and_true, not_or]
    omega
  · refine (((f03.mono fun _ h => h.elim).trans f4 fun b hb => .inr ?_).trans f5 fun b hb => .inr ?_).trans f6 (fun b hb => .inl hb) |>.trans f7 fun _ h => h.elim
    · have hb : b = q := hb; omega
    · have hb : b = q' := hb; omega
end
end Go.Proofs.Ytofnapddoiodkaa.E
