/-
  Steps, entries and answers in memory; a run over an x-fast trie, in plain words.
-/
import Derived.Test.YtaacaokocamlcaaDoorXM
import Derived.Test.YtaacaokocamlcaaDoorRec
namespace Go.Proofs.YtaacaokocamlcaaDoor.E
open Go
set_option linter.unusedSimpArgs false
set_option linter.unusedVariables false
set_option maxRecDepth 100000
set_option maxHeartbeats 8000000

abbrev Itm := Nat × Int
structure Stp where
  op : Int
  items : List Itm
  keys : List Nat
structure An where
  items : List Itm
  n : Nat
  yes : Bool
def ItK : Rk Itm := ⟨35, 2, fun _ g x => g 0 = some (.int .u64 (x.1 : Nat)) ∧ g 1 = some (.int .i64 x.2), [], fun h hP => ⟨by rw [← h 0 (by decide)]; exact hP.1, by rw [← h 1 (by decide)]; exact hP.2⟩, fun _ _ h => h⟩
def KyK : Rk Nat := ⟨22, 1, fun _ g x => g 0 = some (.int .u64 (x : Nat)), [], fun h hP => by rw [← h 0 (by decide)]; exact hP, fun _ _ h => h⟩
theorem sl_dp {α : Type} {K : Rk α} {w w' : World} {S : Nat → Prop} {p : Option Addr} {xs : List α} {dp : List TypeId} (h : Sl K w p xs) (f : Fr S w w') (hd : ∀ b u us, S b → Blk w b u us → u ∉ dp) (ht : K.t ∈ dp) (hs : ∀ u, u ∈ K.dp → u ∈ dp) : Sl K w' p xs := by
  rcases h with h | ⟨q, o, us, rfl, hB, hR⟩
  · exact .inl h
  · exact .inr ⟨q, o, us, rfl, hB.fr f fun hS => hd _ _ _ hS hB ht, hR.fr f fun b u us hS hb e => hd _ _ _ hS hb (hs u e)⟩
def StK : Rk Stp := ⟨33, 3, fun w g s => ∃ pi ci pk ck, g 0 = some (.int .i64 s.op) ∧ g 1 = some (.slice pi s.items.length ci) ∧ g 2 = some (.slice pk s.keys.length ck) ∧ Sl ItK w pi s.items ∧ Sl KyK w pk s.keys, [35, 22],
  fun h ⟨pi, ci, pk, ck, h0, h1, h2, h3⟩ => ⟨pi, ci, pk, ck, by rw [← h 0 (by decide)]; exact h0, by rw [← h 1 (by decide)]; exact h1, by rw [← h 2 (by decide)]; exact h2, h3⟩,
  fun f hd ⟨pi, ci, pk, ck, h0, h1, h2, h3, h4⟩ => ⟨pi, ci, pk, ck, h0, h1, h2, sl_dp h3 f hd (by decide) (fun u hu => by cases hu), sl_dp h4 f hd (by decide) (fun u hu => by cases hu)⟩⟩
def AnK : Rk An := ⟨39, 3, fun w g s => ∃ pi ci, g 0 = some (.slice pi s.items.length ci) ∧ g 1 = some (.int .u64 (s.n : Nat)) ∧ g 2 = some (.bool s.yes) ∧ Sl ItK w pi s.items, [35],
  fun h ⟨pi, ci, h0, h1, h2, h3⟩ => ⟨pi, ci, by rw [← h 0 (by decide)]; exact h0, by rw [← h 1 (by decide)]; exact h1, by rw [← h 2 (by decide)]; exact h2, h3⟩,
  fun f hd ⟨pi, ci, h0, h1, h2, h3⟩ => ⟨pi, ci, h0, h1, h2, sl_dp h3 f hd (by decide) (fun u hu => by cases hu)⟩⟩
def EI (x : Itm) : Value := .iface 57 (.agg #[.int .u64 (x.1 : Nat), .int .i64 x.2])

/-! ## Types -/
def z35 : Value := .agg #[.int .u64 0, .int .i64 0]
def z33 : Value := .agg #[.int .i64 0, .slice none 0 0, .slice none 0 0]
def z39 : Value := .agg #[.slice none 0 0, .int .u64 0, .bool false]
theorem und26 : Tryd.prog.underlying 26 = some (.slice 35) := by kernel_rfl
theorem und25 : Tryd.prog.underlying 25 = some (.slice 33) := by kernel_rfl
theorem und29 : Tryd.prog.underlying 29 = some (.slice 39) := by kernel_rfl
theorem und31 : Tryd.prog.underlying 31 = some (.slice 22) := by kernel_rfl
theorem inf35 : ∃ i, Tryd.prog.info? 35 = some i ∧ i.zero = some z35 ∧ i.size = 2 ∧ i.bytes ≤ 4096 := ⟨_, rfl, by kernel_rfl, by kernel_rfl, Nat.le_of_ble_eq_true (by kernel_rfl)⟩
theorem inf33 : ∃ i, Tryd.prog.info? 33 = some i ∧ i.zero = some z33 ∧ i.size = 3 ∧ i.bytes ≤ 4096 := ⟨_, rfl, by kernel_rfl, by kernel_rfl, Nat.le_of_ble_eq_true (by kernel_rfl)⟩
theorem inf39 : ∃ i, Tryd.prog.info? 39 = some i ∧ i.zero = some z39 ∧ i.size = 3 ∧ i.bytes ≤ 4096 := ⟨_, rfl, by kernel_rfl, by kernel_rfl, Nat.le_of_ble_eq_true (by kernel_rfl)⟩
theorem inf22 : ∃ i, Tryd.prog.info? 22 = some i ∧ i.zero = some (.int .u64 0) ∧ i.size = 1 ∧ i.bytes ≤ 4096 := ⟨_, rfl, by kernel_rfl, by kernel_rfl, Nat.le_of_ble_eq_true (by kernel_rfl)⟩
theorem fill35 (x y : Int) : ∀ i : TypeInfo, i.size = 2 → Instr.fill (fun j => some (j * i.size, i.size)) ((Array.range (1 * i.size)).map (z35.cells[· % z35.cells.size]!)) [(0, .agg #[.int .u64 x, .int .i64 y])] = some [.int .u64 x, .int .i64 y].toArray := by
  intro i h; rw [h]; kernel_rfl
theorem fill22 (x : Int) : ∀ i : TypeInfo, i.size = 1 → Instr.fill (fun j => some (j * i.size, i.size)) ((Array.range (1 * i.size)).map ((Value.int .u64 0).cells[· % (Value.int .u64 0).cells.size]!)) [(0, .int .u64 x)] = some [.int .u64 x].toArray := by
  intro i h; rw [h]; kernel_rfl
theorem fill39 (p : Option Addr) (l c : Nat) (n : Int) (b : Bool) : ∀ i : TypeInfo, i.size = 3 → Instr.fill (fun j => some (j * i.size, i.size)) ((Array.range (1 * i.size)).map (z39.cells[· % z39.cells.size]!)) [(0, .agg #[.slice p l c, .int .u64 n, .bool b])] = some [.slice p l c, .int .u64 n, .bool b].toArray := by
  intro i h; rw [h]; kernel_rfl
theorem fill33 (o : Int) (p : Option Addr) (l c : Nat) (p' : Option Addr) (l' c' : Nat) : ∀ i : TypeInfo, i.size = 3 → Instr.fill (fun j => some (j * i.size, i.size)) ((Array.range (1 * i.size)).map (z33.cells[· % z33.cells.size]!)) [(0, .agg #[.int .i64 o, .slice p l c, .slice p' l' c'])] = some [.int .i64 o, .slice p l c, .slice p' l' c'].toArray := by
  intro i h; rw [h]; kernel_rfl
section
variable {w : World} {f : Option Addr → Nat → Nat → W}
/-- A list of one entry. -/
theorem bld_it {x : Itm} {k : Int} (hx : k = (x.1 : Nat)) (hk : ∀ n w', n = w.heap.size → Blk w' n 35 [.int .u64 (x.1 : Nat), .int .i64 x.2] → Sl ItK w' (some ⟨n, 0, none⟩) [x] → Fr (fun _ => False) w w' → w'.heap.size = n + 1 → f (some ⟨n, 0, none⟩) 1 1 w') :
    RawT Tryd.prog (Instr.buildSlice 26 1 [(0, .agg #[.int .u64 k, .int .i64 x.2])].toArray) (.s (.one .slice)) f w := by
  subst hx
  obtain ⟨i, g1, g2, g3, g4⟩ := inf35
  exact build_intro und26 g1 g2 (by omega) (by omega) (fill35 _ _ i g3) fun w1 f1 b1 z1 => hk _ w1 rfl b1 (Sl.of_blk b1 (Rows.one ⟨rfl, rfl⟩)) f1 z1
theorem bld_ky {x : Nat} {k : Int} (hx : k = (x : Nat)) (hk : ∀ n w', n = w.heap.size → Blk w' n 22 [.int .u64 (x : Nat)] → Sl KyK w' (some ⟨n, 0, none⟩) [x] → Fr (fun _ => False) w w' → w'.heap.size = n + 1 → f (some ⟨n, 0, none⟩) 1 1 w') :
    RawT Tryd.prog (Instr.buildSlice 31 1 [(0, .int .u64 k)].toArray) (.s (.one .slice)) f w := by
  subst hx
  obtain ⟨i, g1, g2, g3, g4⟩ := inf22
  exact build_intro und31 g1 g2 (by omega) (by omega) (fill22 _ i g3) fun w1 f1 b1 z1 => hk _ w1 rfl b1 (Sl.of_blk b1 (Rows.one rfl)) f1 z1
variable {ty : TypeId} {cs : Array Bool} {p : Option Addr} {l c : Nat}
theorem app_it {xs : List Itm} {x : Itm} {n d : Nat} (h : SlO ItK w p l c xs) (hB : Blk w n 35 [.int .u64 (x.1 : Nat), .int .i64 x.2]) (hl : l < 4000000000) (hk : ∀ p' c' w', Fr (fun b => bl p b) w w' → SlO ItK w' p' (l + 1) c' (xs ++ [x]) → (∀ b, bl p' b → bl p b ∨ w.heap.size ≤ b) → f p' (l + 1) c' w') :
    NextT Tryd.prog (builtin .append #[26, 26] ty cs [.slice p l c, .slice (some ⟨n, 0, none⟩) 1 d].toArray) (.s (.one .slice)) f w := by
  obtain ⟨i, g1, g2, g3, g4⟩ := inf35
  refine SlO.append (K := ItK) und26 g1 g2 g3 (by decide) rfl g4 (by decide) h hB (ys := [x]) (Rows.one ⟨rfl, rfl⟩) rfl rfl (fun u hu => ?_) (by omega) hk
  simp only [List.mem_cons, List.not_mem_nil, or_false] at hu
  rcases hu with rfl | rfl <;> rfl
/-- A list of one step, appended. -/
theorem add_st {ss : List Stp} {s : Stp} {o : Int} {pi pk : Option Addr} {ci ck li lk : Nat} (h : SlO StK w p l c ss) (ho : o = s.op) (hli : li = s.items.length) (hlk : lk = s.keys.length) (hi : Sl ItK w pi s.items) (hky : Sl KyK w pk s.keys) (hl : l < 4000000000)
    (hk : ∀ p' c' w', Fr (fun b => bl p b) w w' → SlO StK w' p' (l + 1) c' (ss ++ [s]) → (∀ b, bl p' b → bl p b ∨ w.heap.size ≤ b) → f p' (l + 1) c' w') :
    RawT Tryd.prog (Instr.buildSlice 25 1 [(0, .agg #[.int .i64 o, .slice pi li ci, .slice pk lk ck])].toArray) (.s (.one .slice)) (fun a m d => NextT Tryd.prog (builtin .append #[25, 25] ty cs [.slice p l c, .slice a m d].toArray) (.s (.one .slice)) f) w := by
  subst ho hli hlk
  obtain ⟨i, g1, g2, g3, g4⟩ := inf33
  refine build_intro und25 g1 g2 (by omega) (by omega) (fill33 _ _ _ _ _ _ _ i g3) fun w1 f1 b1 z1 => ?_
  have h1 := h.fr0 f1
  refine SlO.append (K := StK) und25 g1 g2 g3 (by decide) rfl g4 (by decide) h1 b1 (ys := [s]) (Rows.one ⟨pi, ci, pk, ck, rfl, rfl, rfl, hi.fr0 f1, hky.fr0 f1⟩) rfl rfl (fun u hu => ?_) (by omega) fun p' c' w' f' o' hp => hk p' c' w' ((f1.mono fun _ h => h.elim).trans f' fun b hb => .inl hb) o' fun b hb => (hp b hb).imp id fun h => by omega
  simp only [List.mem_cons, List.not_mem_nil, or_false] at hu
  rcases hu with rfl | rfl | rfl <;> rfl
/-- An answer appended. -/
theorem add_an {ss : List An} {s : An} {pi : Option Addr} {ci li : Nat} {n : Int} {y : Bool} (h : SlO AnK w p l c ss) (hli : li = s.items.length) (hn : n = (s.n : Nat)) (hy : y = s.yes) (hi : Sl ItK w pi s.items) (hl : l < 4000000000)
    (hk : ∀ p' c' w', Fr (fun b => bl p b) w w' → SlO AnK w' p' (l + 1) c' (ss ++ [s]) → (∀ b, bl p' b → bl p b ∨ w.heap.size ≤ b) → f p' (l + 1) c' w') :
    RawT Tryd.prog (Instr.buildSlice 29 1 [(0, .agg #[.slice pi li ci, .int .u64 n, .bool y])].toArray) (.s (.one .slice)) (fun a m d => NextT Tryd.prog (builtin .append #[29, 29] ty cs [.slice p l c, .slice a m d].toArray) (.s (.one .slice)) f) w := by
  subst hli hn hy
  obtain ⟨i, g1, g2, g3, g4⟩ := inf39
  refine build_intro und29 g1 g2 (by omega) (by omega) (fill39 _ _ _ _ _ i g3) fun w1 f1 b1 z1 => ?_
  have h1 := h.fr0 f1
  refine SlO.append (K := AnK) und29 g1 g2 g3 (by decide) rfl g4 (by decide) h1 b1 (ys := [s]) (Rows.one ⟨pi, ci, rfl, rfl, rfl, hi.fr0 f1⟩) rfl rfl (fun u hu => ?_) (by omega) fun p' c' w' f' o' hp => hk p' c' w' ((f1.mono fun _ h => h.elim).trans f' fun b hb => .inl hb) o' fun b hb => (hp b hb).imp id fun h => by omega
  simp only [List.mem_cons, List.not_mem_nil, or_false] at hu
  rcases hu with rfl | rfl | rfl <;> rfl
end
/-! ## A run, plain -/
structure PSt where
  m : Nat → Option Int
  num : Nat
  mn : Option Nat
  mx : Option Nat
def PSt.ins (s : PSt) (x : Itm) : PSt := ⟨fun q => if q = x.1 then some x.2 else s.m q, s.num + (if s.m x.1 = none then 1 else 0), some (lo s.mn x.1), some (hi s.mx x.1)⟩
def PSt.insAll (s : PSt) (xs : List Itm) : PSt := xs.foldl PSt.ins s
def PSt.new : PSt := ⟨fun _ => none, 0, none, none⟩
def PSt.x (s : PSt) : XSt := ⟨fun q => (s.m q).map fun v => EI (q, v), s.num, s.mn, s.mx⟩
theorem PSt.x_ins (s : PSt) (x : Itm) : (s.ins x).x = s.x.ins (x.1, EI x) := by
  unfold PSt.x PSt.ins XSt.ins
  congr 1
  · funext q
    show Option.map _ (if q = x.1 then some x.2 else s.m q) = if q = x.1 then some (EI x) else _
    split
    · rename_i h; subst h; rfl
    · rfl
  · show s.num + _ = s.num + _
    congr 1
    show (if s.m x.1 = none then 1 else 0) = if Option.map _ (s.m x.1) = none then 1 else 0
    cases s.m x.1 <;> simp
theorem PSt.x_insAll : ∀ (xs : List Itm) (s : PSt), (s.insAll xs).x = s.x.insAll (xs.map fun x => (x.1, EI x))
  | [], s => rfl
  | x :: xs, s => by
    show ((s.ins x).insAll xs).x = _
    rw [PSt.x_insAll xs, PSt.x_ins]; rfl
theorem PSt.ins_num (s : PSt) (e : Itm) : (s.ins e).num ≤ s.num + 1 := by
  show s.num + _ ≤ _; split <;> omega
theorem PSt.insAll_num : ∀ (es : List Itm) (s : PSt), (s.insAll es).num ≤ s.num + es.length
  | [], s => Nat.le_refl _
  | e :: es, s => by
    have h1 := PSt.insAll_num es (s.ins e)
    have h2 := s.ins_num e
    show ((s.ins e).insAll es).num ≤ _
    simp only [List.length_cons]; omega
theorem PSt.kp {s : PSt} {q : Nat} {v : Value} (h : s.x.m q = some v) (w : World) : KP w v q := by
  have h : (s.m q).map (fun v => EI (q, v)) = some v := h
  cases hm : s.m q with
  | none => rw [hm] at h; cases h
  | some y => rw [hm] at h; cases h; exact .item q y
def it1 (q : Nat) : Option Int → List Itm | none => [] | some v => [(q, v)]
def fnd (s : PSt) (q : Nat) : An := ⟨it1 q (s.m q), 0, false⟩
def fndo (s : PSt) : Option Nat → An | none => ⟨[], 0, false⟩ | some q => fnd s q
def xstep (s : PSt) (st : Stp) : PSt × An :=
  if st.op = 1 then (s.insAll st.items, ⟨[], 0, false⟩)
  else if st.op = 3 then (s, fnd s (st.keys.headD 0))
  else if st.op = 5 then (s, ⟨[], s.num, false⟩)
  else if st.op = 6 then (s, fndo s s.mn)
  else if st.op = 7 then (s, fndo s s.mx)
  else (s, ⟨[], 0, false⟩)
def xend (s : PSt) (ss : List Stp) : PSt := ss.foldl (fun s st => (xstep s st).1) s
def xrun (s : PSt) : List Stp → List An
  | [] => []
  | st :: ss => (xstep s st).2 :: xrun (xstep s st).1 ss
theorem xend_snoc (s : PSt) (ss : List Stp) (st : Stp) : xend s (ss ++ [st]) = (xstep (xend s ss) st).1 := by
  unfold xend; rw [List.foldl_append]; rfl
theorem xrun_snoc : ∀ (ss : List Stp) (s : PSt) (st : Stp), xrun s (ss ++ [st]) = xrun s ss ++ [(xstep (xend s ss) st).2]
  | [], s, st => rfl
  | a :: ss, s, st => by
    show _ :: xrun _ (ss ++ [st]) = _ :: _
    rw [xrun_snoc ss]; rfl
theorem xrun_length : ∀ (ss : List Stp) (s : PSt), (xrun s ss).length = ss.length
  | [], _ => rfl
  | a :: ss, s => by show (xrun _ ss).length + 1 = _; rw [xrun_length ss]; rfl
def tot (ss : List Stp) : Nat := ss.foldl (fun n s => n + s.items.length) 0
theorem tot_snoc (ss : List Stp) (s : Stp) : tot (ss ++ [s]) = tot ss + s.items.length := by unfold tot; rw [List.foldl_append]; rfl
end Go.Proofs.YtaacaokocamlcaaDoor.E

namespace Go.Proofs.YtaacaokocamlcaaDoor.E
open Go
set_option linter.unusedSimpArgs false
set_option linter.unusedVariables false
set_option maxRecDepth 100000
set_option maxHeartbeats 8000000

theorem ta57 (x y : Int) (w : World) : (Instr.typeAssert (.iface 57 (.agg #[.int .u64 x, .int .i64 y])) 20 57 true).run Tryd.prog w = .ok (.tuple #[.agg #[.int .u64 x, .int .i64 y], .bool true]) w := by kernel_rfl
theorem ta57n (w : World) : (Instr.typeAssert .nilIface 20 57 true).run Tryd.prog w = .ok (.tuple #[.agg #[.int .u64 0, .int .i64 0], .bool false]) w := by kernel_rfl
theorem back_an {f : Option Addr → Nat → Nat → Int → Bool → W} {p : Option Addr} {l c : Nat} {n : Int} {b : Bool} {w : World} (h : f p l c n b w) : Back (.s (.agg [.slice, (.int .u64), .bool])) f (.returned (.agg #[.slice p l c, .int .u64 n, .bool b])) w := ⟨((p, l, c), n, b, ()), rfl, h⟩
theorem ta2 {P : Program} {s : Sem Value} {x y : Int} {b : Bool} {f : Int → Int → Bool → W} {w : World} (h : s.run P w = .ok (.tuple #[.agg #[.int .u64 x, .int .i64 y], .bool b]) w) (hk : f x y b w) : RawS P s (.tup [(.agg [(.int .u64), (.int .i64)]), (.one .bool)]) f w := ⟨(x, y, b, ()), h, hk⟩
/-- entry. -/
theorem F26_spec {k : Value → W} {w : World} {q : Nat} {o : Option Int} (hk : ∀ pi ci w', Sl ItK w' pi (it1 q o) → Fr (fun _ => False) w w' → k (.agg #[.slice pi (it1 q o).length ci, .int .u64 0, .bool false]) w') : F26 k ((o.map fun v => EI (q, v)).getD .nilIface) w := by
  unfold F26
  refine new_intro fun n2 w1 e1 b1 f1 z1 => ?_
  cases o with
  | none =>
    refine ta2 (ta57n w1) ?_
    refine new_intro fun n6 w2 e2 b2 f2 z2 => ?_
    have b12 := b1.fr f2 id
    refine store_intro (i := 0) b2 (by simp) rfl fun w3 b3 f3 z3 => ?_
    refine store_intro (i := 1) b3 (by simp) rfl fun w4 b4 f4 z4 => ?_
    simp only [BIf_false]
    have hn : ¬ n2 = n6 := by omega
    have b14 := (b12.fr f3 hn).fr f4 hn
    refine store_intro (i := 0) b14 (by simp) rfl fun w5 b5 f5 z5 => ?_
    refine store_intro (i := 1) b5 (by simp) rfl fun w6 b6 f6 z6 => ?_
    refine store_intro (i := 2) b6 (by simp) rfl fun w7 b7 f7 z7 => ?_
    refine load_slice (i := 0) b7 rfl (load_int (i := 1) b7 rfl (load_bool (i := 2) b7 rfl ?_))
    refine hk none 0 w7 (Sl.nil _ _ _) ?_
    have g1 : Fr (fun b => b = n2 ∨ b = n6) w1 w7 := by
      have a1 : Fr (fun b => b = n2 ∨ b = n6) w1 w4 := ((f2.mono (S' := fun b => b = n2 ∨ b = n6) fun _ h => h.elim).trans f3 fun b h => .inl (.inr h)).trans f4 fun b h => .inl (.inr h)
      exact ((a1.trans f5 fun b h => .inl (.inl h)).trans f6 fun b h => .inl (.inl h)).trans f7 fun b h => .inl (.inl h)
    exact f1.trans g1 fun b h => .inr (by omega)
  | some v =>
    refine ta2 (ta57 _ _ w1) ?_
    refine new_intro fun n6 w2 e2 b2 f2 z2 => ?_
    have b12 := b1.fr f2 id
    refine store_intro (i := 0) b2 (by simp) rfl fun w3 b3 f3 z3 => ?_
    refine store_intro (i := 1) b3 (by simp) rfl fun w4 b4 f4 z4 => ?_
    simp only [BIf_true]
    have hn : ¬ n2 = n6 := by omega
    have b14 := (b12.fr f3 hn).fr f4 hn
    refine load_int (i := 0) b4 rfl (load_int (i := 1) b4 rfl ?_)
    refine bld_it (x := (q, v)) rfl fun m w5 e5 b5 s5 f5 z5 => ?_
    have b15 := b14.fr f5 id
    have hl4 := b14.lt
    have hm : ¬ m = n2 := by omega
    refine store_intro (i := 0) b15 (by simp) rfl fun w6 b6 f6 z6 => ?_
    refine store_intro (i := 1) b6 (by simp) rfl fun w7 b7 f7 z7 => ?_
    refine store_intro (i := 2) b7 (by simp) rfl fun w8 b8 f8 z8 => ?_
    refine load_slice (i := 0) b8 rfl (load_int (i := 1) b8 rfl (load_bool (i := 2) b8 rfl ?_))
    have f58 : Fr (fun b => b = n2) w5 w8 := (f6.trans f7 fun b h => .inl h).trans f8 fun b h => .inl h
    refine hk (some ⟨m, 0, none⟩) 1 w8 (s5.fr f58 (Tys.one b15) (by decide)) ?_
    have g1 : Fr (fun b => b = n2 ∨ b = n6) w1 w8 := by
      have a1 : Fr (fun b => b = n2 ∨ b = n6) w1 w4 := ((f2.mono (S' := fun b => b = n2 ∨ b = n6) fun _ h => h.elim).trans f3 fun b h => .inl (.inr h)).trans f4 fun b h => .inl (.inr h)
      exact (a1.trans f5 fun b h => h.elim).trans f58 fun b h => .inl (.inl h)
    exact f1.trans g1 fun b h => .inr (by omega)
/-- first. -/
theorem F28_spec {k : Value → W} {w : World} {p : Option Addr} {c : Nat} {ks : List Nat} (h : Sl KyK w p ks) (hk : k (.int .u64 ((ks.headD 0 : Nat) : Int)) w) : F28 k p ks.length c w := by
  unfold F28
  cases ks with
  | nil =>
    rw [show (((([] : List Nat).length : Nat) : Int) == 0) = true from rfl]
    simp only [BIf_true]
    exact hk
  | cons a ks =>
    obtain ⟨q, o, rfl, h0⟩ := h.get (i := 0) (x := a) rfl
    rw [show ((((a :: ks).length : Nat) : Int) == 0) = false by rw [beq_eq_false_iff_ne]; simp only [List.length_cons]; omega]
    simp only [BIf_false, NN_mk]
    refine ⟨by simp only [List.length_cons]; omega, LoadT_int.2 ⟨_, ?_, hk⟩⟩
    rw [add_mk]; exact h0
theorem und55 : Tryd.prog.underlying 55 = some (.slice 62) := by kernel_rfl
theorem inf62 : ∃ i, Tryd.prog.info? 62 = some i ∧ i.zero = some .nilIface ∧ i.size = 1 ∧ i.bytes ≤ 4096 := ⟨_, rfl, by kernel_rfl, by kernel_rfl, Nat.le_of_ble_eq_true (by kernel_rfl)⟩
/-- An answer told. -/
theorem F9_J1_spec {k : Value → W} {again : Option Addr → Option Addr → Nat → Nat → Option Addr → Nat → Nat → Int → Int → W} {w : World} {t sp op pi : Option Addr} {ol oc sl sc n ci li : Nat} {x i m : Int} {ans : List An} {a : An} {y : Bool} (hO : SlO AnK w op ol oc ans) (hB : Blk w n 39 [.slice pi li ci, .int .u64 m, .bool y]) (hli : li = a.items.length) (hm : m = (a.n : Nat)) (hy : y = a.yes) (hi : Sl ItK w pi a.items) (hol : ol < 4000000000)
    (hk : ∀ op' oc' w', SlO AnK w' op' (ol + 1) oc' (ans ++ [a]) → Fr (fun b => bl op b) w w' → (∀ b, bl op' b → bl op b ∨ w.heap.size ≤ b) → again t op' (ol + 1) oc' sp sl sc x (addI .i64 i 1) w') :
    F9_J1 k again t op ol oc ⟨n, 0, none⟩ sp sl sc x i w := by
  unfold F9_J1
  simp only [add_mk, Nat.zero_add]
  refine load_slice (i := 0) hB rfl (load_int (i := 1) hB rfl (load_bool (i := 2) hB rfl ?_))
  exact add_an hO hli hm hy hi hol fun p' c' w' f' o' hp => hk p' c' w' o' f' hp
end Go.Proofs.YtaacaokocamlcaaDoor.E

namespace Go.Proofs.YtaacaokocamlcaaDoor.E
open Go
set_option linter.unusedSimpArgs false
set_option linter.unusedVariables false
set_option maxRecDepth 100000
set_option maxHeartbeats 8000000

/-- An insertion: the list of entries, the call. -/
theorem F9_L2_spec {k : Value → W} {again : Option Addr → Option Addr → Nat → Nat → Option Addr → Nat → Nat → Int → Int → W} {w : World} {a B : Nat} {S : Nat → Prop} {s : PSt} {sp op ip : Option Addr} {ol oc sl sc n ic : Nat} {x i : Int} {ans : List An} {xs : List Itm} (X : XT w a B S s.x) (hO : SlO AnK w op ol oc ans) (hB : Blk w n 39 [.slice none 0 0, .int .u64 0, .bool false]) (hI : Sl ItK w ip xs) (hxs : ∀ x ∈ xs, x.1 < 2 ^ B) (hnum : s.num + xs.length < 4294967296) (hol : ol < 4000000000) (hop : ∀ b, bl op b → 2 ≤ b)
    (hk : ∀ S' op' oc' w', XT w' a B S' (s.insAll xs).x → (∀ b, S' b → S b ∨ w.heap.size ≤ b) → SlO AnK w' op' (ol + 1) oc' (ans ++ [⟨[], 0, false⟩]) → Fr (fun b => S b ∨ bl op b) w w' → (∀ b, bl op' b → bl op b ∨ w.heap.size ≤ b) → again (some ⟨a, 0, none⟩) op' (ol + 1) oc' sp sl sc x (addI .i64 i 1) w') :
    Loop [.ptr, .slice, .addr, .slice, .slice, (.int .i64), (.int .i64), .slice, (.int .i64), (.int .i64)] (F9_L2 k again) (some ⟨a, 0, none⟩) op ol oc ⟨n, 0, none⟩ none 0 0 sp sl sc x i ip xs.length ic ((xs.length : Nat) : Int) 0 w := by
  obtain ⟨i62, g1, g2, g3, g4⟩ := inf62
  refine F9_L2_rule (fun t op1 ol1 oc1 sd lp ll lc sp1 sl1 sc1 x1 i1 ip1 il1 ic1 m j w' => t = some ⟨a, 0, none⟩ ∧ op1 = op ∧ ol1 = ol ∧ oc1 = oc ∧ sd = ⟨n, 0, none⟩ ∧ sp1 = sp ∧ sl1 = sl ∧ sc1 = sc ∧ x1 = x ∧ i1 = i ∧ ip1 = ip ∧ il1 = xs.length ∧ m = (xs.length : Nat) ∧ ∃ h : Nat, j = h ∧ h ≤ xs.length ∧ Own w' 62 lp ll lc ((xs.take h).map EI) ∧ (∀ b, bl lp b → w.heap.size ≤ b) ∧ Fr (fun _ => False) w w')
    (fun _ _ _ _ _ _ _ _ _ _ _ _ _ _ _ _ m j _ => (m - j).toNat) ?_ ⟨rfl, rfl, rfl, rfl, rfl, rfl, rfl, rfl, rfl, rfl, rfl, rfl, rfl, 0, rfl, Nat.zero_le _, Own.nil _ _, (fun b ⟨_, h, _⟩ => by cases h), Fr.refl _ _⟩
  rintro t op1 ol1 oc1 sd lp ll lc sp1 sl1 sc1 x1 i1 ip1 il1 ic1 m j w1 ⟨rfl, e1, e2, e3, rfl, e4, e5, e6, e7, e8, e9, e10, rfl, h, rfl, hh, oL, hlp, f1⟩
  obtain rfl := e1.symm; obtain rfl := e2.symm; obtain rfl := e3.symm; obtain rfl := e4.symm; obtain rfl := e5.symm; obtain rfl := e6.symm; obtain rfl := e7.symm; obtain rfl := e8.symm; obtain rfl := e9.symm; obtain rfl := e10.symm
  have hll : ll = h := by have := oL.1; simp at this; omega
  subst hll
  unfold F9_L2
  by_cases hlt : ll < xs.length
  · rw [decide_eq_true (by omega)]
    have hx : xs[ll]? = some xs[ll] := List.getElem?_eq_getElem hlt
    obtain ⟨q, o, rfl, h0, h1⟩ := (hI.fr0 f1).get hx
    simp only [BIf_true, NN_mk, Int.toNat_natCast, add_mk]
    refine ⟨by omega, LoadT_int.2 ⟨_, h0, LoadT_int.2 ⟨_, h1, ?_⟩⟩⟩
    refine new_intro fun n33 w2 e2 b2 f2 z2 => ?_
    refine store_intro (i := 0) b2 (by simp) rfl fun w3 b3 f3 z3 => ?_
    refine store_intro (i := 1) b3 (by simp) rfl fun w4 b4 f4 z4 => ?_
    refine load_int (i := 0) b4 rfl (load_int (i := 1) b4 rfl ?_)
    have f14 : Fr (fun _ => False) w1 w4 := ((f2.mono (S' := fun b => b = n33) fun _ h => h.elim).trans f3 fun b h => .inl h).trans f4 (fun b h => .inl h) |>.mono fun b h => .inr (by omega)
    have oL4 := oL.fr f14 fun _ _ h => h
    refine append1 (P := Tryd.prog) und55 g1 g2 g3 rfl g4 oL4 (v := EI xs[ll]) rfl rfl (by omega) fun p' c' w5 f5 o5 hp5 hz5 => ?_
    have f15 : Fr (fun b => bl lp b) w1 w5 := (f14.mono fun _ h => h.elim).trans f5 fun b h => .inl h
    have hz1 := f1.size
    have hz14 := f14.size
    rw [add_one (by omega)]
    refine ⟨⟨(by trivial), (by trivial), (by trivial), (by trivial), (by trivial), (by trivial), (by trivial), (by trivial), (by trivial), (by trivial), (by trivial), (by trivial), (by trivial), ll + 1, rfl, hlt, ?_, fun b hb => ?_, f1.trans f15 fun b hb => .inr (hlp b hb)⟩, by omega⟩
    · rw [take_snoc hx, List.map_append]; exact o5
    · rcases hp5 b hb with h | h
      · exact hlp b h
      · omega
  · have : ll = xs.length := by omega
    subst this
    rw [decide_eq_false (by omega)]
    simp only [BIf_false]
    rw [List.take_length] at oL
    have X1 := X.fr0 f1
    have hz1 := f1.size
    have hmap : xs.map EI = (xs.map fun x => (x.1, EI x)).map (·.2) := by rw [List.map_map]; rfl
    rw [hmap] at oL
    refine F24_call (F24_XT X1 oL (fun b hb hS => by have := hlp b hb; have := X.lt hS; omega) (fun e he => ?_) hnum fun S' w2 X2 hS2 f2 => back0 ?_)
    · obtain ⟨y, hy, rfl⟩ := List.mem_map.1 he
      exact ⟨.item _ _, hxs y hy⟩
    rw [← PSt.x_insAll] at X2
    have tyS : Tys S w1 [82, 88, 91] := fun b u us hS hu => by
      rcases X1.kinds hS hu with rfl | rfl | rfl <;> decide
    have hO2 := (hO.fr0 f1).fr f2 tyS (by decide)
    have hB2 := (hB.fr f1 id).fr f2 fun hS => by rcases X1.kinds hS (hB.fr f1 id) with h | h | h <;> exact absurd h (by decide)
    have hz2 := f2.size
    refine F9_J1_spec hO2 hB2 (a := ⟨[], 0, false⟩) rfl rfl rfl (Sl.nil _ _ _) hol fun op' oc' w3 hO3 f3 hop3 => ?_
    have hSop : ∀ b, S' b → ¬ bl op b := fun b hS hb => by
      obtain ⟨us, hu⟩ := hO2.blk hb
      rcases X2.kinds hS hu with h | h | h <;> exact absurd h (by decide)
    refine hk S' op' oc' w3 (X2.fr f3 hSop (fun h => by have := hop 0 h; omega) (fun h => by have := hop 1 h; omega) fun q v hv => PSt.kp hv _) (fun b hb => ?_) hO3 ?_ fun b hb => ?_
    · rcases hS2 b hb with h | h
      · exact .inl h
      · exact .inr (by omega)
    · exact ((f1.mono fun _ h => h.elim).trans f2 fun b h => .inl (.inl h)).trans f3 fun b h => .inl (.inr h)
    · exact (hop3 b hb).imp id fun h => by omega
end Go.Proofs.YtaacaokocamlcaaDoor.E
