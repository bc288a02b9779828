/-
  Caches: a run of steps; what it says.
-/
import Derived.Test.YtmaejciimpnogaaDoorCaO
import Derived.Test.YtmaejciimpnogaaDoorFnsD
namespace Go.Proofs.YtmaejciimpnogaaDoor.E
open Go
set_option linter.unusedSimpArgs false
set_option linter.unusedVariables false
set_option maxRecDepth 100000
set_option maxHeartbeats 16000000

/-! ## Plain -/
structure CS where
  op : Int
  key : Int
  sz : Int
  tag : Int
  keys : List Int
structure Sd where
  items : List (Int × Int)
  has : List Bool
  size : Nat
def itm : Option Cit → Int × Int
  | none => (0, 0)
  | some i => (((i.sz : Nat) : Int), i.tag)
def stepC (lru : Bool) (C : Nat) (L : List Cit) (s : CS) : List Cit :=
  if s.op = 1 then putI C ⟨kst s.key, s.sz.toNat, s.tag⟩ L else if s.op = 2 then touches lru (s.keys.map kst) L else if s.op = 3 then rems (s.keys.map kst) L else L
def sayC (lru : Bool) (C : Nat) (L : List Cit) (s : CS) : Sd :=
  if s.op = 2 then ⟨(gets lru (s.keys.map kst) L).map itm, (gets lru (s.keys.map kst) L).map Option.isSome, tot (stepC lru C L s)⟩ else ⟨[], [], tot (stepC lru C L s)⟩
def runC (lru : Bool) (C : Nat) (L : List Cit) (ss : List CS) : List Cit := ss.foldl (stepC lru C) L
def ansC (lru : Bool) (C : Nat) : List Cit → List CS → List Sd
  | _, [] => []
  | L, s :: ss => sayC lru C L s :: ansC lru C (stepC lru C L s) ss
theorem runC_snoc (lru : Bool) (C : Nat) (L : List Cit) (ss : List CS) (s : CS) : runC lru C L (ss ++ [s]) = stepC lru C (runC lru C L ss) s := by unfold runC; rw [List.foldl_append]; rfl
theorem ansC_snoc (lru : Bool) (C : Nat) : ∀ (ss : List CS) (L : List Cit) (s : CS), ansC lru C L (ss ++ [s]) = ansC lru C L ss ++ [sayC lru C (runC lru C L ss) s]
  | [], L, s => rfl
  | a :: ss, L, s => by show _ :: ansC lru C _ (ss ++ [s]) = _ :: _; rw [ansC_snoc lru C ss]; rfl
theorem ansC_len (lru : Bool) (C : Nat) : ∀ (ss : List CS) (L : List Cit), (ansC lru C L ss).length = ss.length
  | [], _ => rfl
  | a :: ss, L => by show (ansC lru C _ ss).length + 1 = _; rw [ansC_len lru C ss]; rfl
def OkC (C : Nat) (s : CS) : Prop := (s.op = 1 ∧ (0 ≤ s.key ∧ s.key < 10) ∧ 1 ≤ s.sz ∧ s.sz ≤ ((C : Nat) : Int) ∨ s.op = 2 ∨ s.op = 3) ∧ s.keys.length ≤ 8 ∧ ∀ z ∈ s.keys, 0 ≤ z ∧ z < 10
theorem touches_ok {lru : Bool} {C : Nat} : ∀ (ks : List ByteArray) {L : List Cit}, OkT C L → (L.map Cit.k).Nodup → OkT C (touches lru ks L)
  | [], L, h, _ => h
  | k :: ks, L, h, hn => by
    obtain ⟨h1, h2⟩ := touch_tot (lru := lru) (k := k) C h hn
    exact touches_ok ks h1 h2
/-! ## Memory -/
def IK : Rk (Int × Int) := ⟨27, 2, fun _ g x => g 0 = some (.int .i64 x.1) ∧ g 1 = some (.int .i64 x.2), [], fun h ⟨h0, h1⟩ => ⟨by rw [← h 0 (by decide)]; exact h0, by rw [← h 1 (by decide)]; exact h1⟩, fun _ _ h => h⟩
def BK : Rk Bool := ⟨4, 1, fun _ g x => g 0 = some (.bool x), [], fun h h0 => by rw [← h 0 (by decide)]; exact h0, fun _ _ h => h⟩
theorem sl_dp {α : Type} {K : Rk α} {w w' : World} {S : Nat → Prop} {p : Option Addr} {xs : List α} {dp : List TypeId} (h : Sl K w p xs) (f : Fr S w w') (hd : ∀ b u us, S b → Blk w b u us → u ∉ dp) (ht : K.t ∈ dp) (hs : ∀ u, u ∈ K.dp → u ∈ dp) : Sl K w' p xs := by
  rcases h with h | ⟨q, o, us, rfl, hB, hR⟩
  · exact .inl h
  · exact .inr ⟨q, o, us, rfl, hB.fr f fun hS => hd _ _ _ hS hB ht, hR.fr f fun b u us hS hb e => hd _ _ _ hS hb (hs u e)⟩
def SaK : Rk Sd := ⟨35, 3, fun w g s => ∃ p c q d, g 0 = some (.slice p s.items.length c) ∧ g 1 = some (.slice q s.has.length d) ∧ g 2 = some (.int .i64 ((s.size : Nat) : Int)) ∧ Sl IK w p s.items ∧ Sl BK w q s.has, [27, 4],
  fun h ⟨p, c, q, d, h0, h1, h2, h3⟩ => ⟨p, c, q, d, by rw [← h 0 (by decide)]; exact h0, by rw [← h 1 (by decide)]; exact h1, by rw [← h 2 (by decide)]; exact h2, h3⟩,
  fun f hd ⟨p, c, q, d, h0, h1, h2, h3, h4⟩ => ⟨p, c, q, d, h0, h1, h2, sl_dp h3 f hd (by decide) (fun u hu => by cases hu), sl_dp h4 f hd (by decide) (fun u hu => by cases hu)⟩⟩
/-- Steps that can be read at p. -/
def StA (w : World) (p : Option Addr) (ss : List CS) : Prop := ∀ (i : Nat) s, ss[i]? = some s → ∃ a q c, p = some a ∧ w.cell? ((a.add (i * 5)).add 0) = some (.int .i64 s.op) ∧ w.cell? ((a.add (i * 5)).add 1) = some (.int .i64 s.key) ∧ w.cell? ((a.add (i * 5)).add 2) = some (.int .i64 s.sz) ∧ w.cell? ((a.add (i * 5)).add 3) = some (.int .i64 s.tag) ∧
  w.cell? ((a.add (i * 5)).add 4) = some (.slice q s.keys.length c) ∧ Ints w q s.keys
theorem StA.fr0 {w w' : World} {p : Option Addr} {ss : List CS} (h : StA w p ss) (f : Fr (fun _ => False) w w') : StA w' p ss := fun i s hs => by
  obtain ⟨a, q, c, h1, c0, c1, c2, c3, c4, h2⟩ := h i s hs
  exact ⟨a, q, c, h1, by rw [f.cell (cell_lt c0) id]; exact c0, by rw [f.cell (cell_lt c1) id]; exact c1, by rw [f.cell (cell_lt c2) id]; exact c2, by rw [f.cell (cell_lt c3) id]; exact c3, by rw [f.cell (cell_lt c4) id]; exact c4, h2.fr0 f⟩
theorem und32 : Tryd.prog.underlying 32 = some (.slice 27) := by kernel_rfl
theorem inf27 : ∃ i, Tryd.prog.info? 27 = some i ∧ i.zero = some (.agg #[.int .i64 0, .int .i64 0]) ∧ i.size = 2 ∧ i.bytes ≤ 4096 := ⟨_, rfl, by kernel_rfl, by kernel_rfl, Nat.le_of_ble_eq_true (by kernel_rfl)⟩
theorem fill27 (a b : Int) : ∀ i : TypeInfo, i.size = 2 → Instr.fill (fun j => some (j * i.size, i.size)) ((Array.range (1 * i.size)).map ((Value.agg #[.int .i64 0, .int .i64 0]).cells[· % (Value.agg #[.int .i64 0, .int .i64 0]).cells.size]!)) [(0, .agg #[.int .i64 a, .int .i64 b])] = some [.int .i64 a, .int .i64 b].toArray := by
  intro i h; rw [h]; kernel_rfl
theorem und33 : Tryd.prog.underlying 33 = some (.slice 4) := by kernel_rfl
theorem inf4 : ∃ i, Tryd.prog.info? 4 = some i ∧ i.zero = some (.bool false) ∧ i.size = 1 ∧ i.bytes ≤ 4096 := ⟨_, rfl, by kernel_rfl, by kernel_rfl, Nat.le_of_ble_eq_true (by kernel_rfl)⟩
theorem fill4 (a : Bool) : ∀ i : TypeInfo, i.size = 1 → Instr.fill (fun j => some (j * i.size, i.size)) ((Array.range (1 * i.size)).map ((Value.bool false).cells[· % (Value.bool false).cells.size]!)) [(0, .bool a)] = some [.bool a].toArray := by
  intro i h; rw [h]; kernel_rfl
def z35 : Value := .agg #[.slice none 0 0, .slice none 0 0, .int .i64 0]
theorem und30 : Tryd.prog.underlying 30 = some (.slice 35) := by kernel_rfl
theorem inf35 : ∃ i, Tryd.prog.info? 35 = some i ∧ i.zero = some z35 ∧ i.size = 3 ∧ i.bytes ≤ 4096 := ⟨_, rfl, by kernel_rfl, by kernel_rfl, Nat.le_of_ble_eq_true (by kernel_rfl)⟩
theorem fill35 (p : Option Addr) (l c : Nat) (q : Option Addr) (m d : Nat) (n : Int) : ∀ i : TypeInfo, i.size = 3 → Instr.fill (fun j => some (j * i.size, i.size)) ((Array.range (1 * i.size)).map (z35.cells[· % z35.cells.size]!)) [(0, .agg #[.slice p l c, .slice q m d, .int .i64 n])] = some [.slice p l c, .slice q m d, .int .i64 n].toArray := by
  intro i h; rw [h]; kernel_rfl
theorem ta_no (w : World) : (Instr.typeAssert .nilIface 59 53 true).run Tryd.prog w = .ok (.tuple #[.agg #[.int .i64 0, .int .i64 0], .bool false]) w := by kernel_rfl
theorem ta_yes (a b : Int) (w : World) : (Instr.typeAssert (.iface 53 (.agg #[.int .i64 a, .int .i64 b])) 59 53 true).run Tryd.prog w = .ok (.tuple #[.agg #[.int .i64 a, .int .i64 b], .bool true]) w := by kernel_rfl
theorem m_sz (p : Option Addr) (w : World) : (callMethod (.iface 68 (.pointer p)) "Size" [].toArray).run Tryd.prog w = .ok (.enter 64 #[.pointer p]) w := by kernel_rfl
theorem m_put (p : Option Addr) (k : ByteArray) (v : Value) (w : World) : (callMethod (.iface 68 (.pointer p)) "Put" [.string k, v].toArray).run Tryd.prog w = .ok (.enter 62 #[.pointer p, .string k, v]) w := by kernel_rfl
theorem m_get (p q : Option Addr) (l c : Nat) (w : World) : (callMethod (.iface 68 (.pointer p)) "Get" [.slice q l c].toArray).run Tryd.prog w = .ok (.enter 61 #[.pointer p, .slice q l c]) w := by kernel_rfl
theorem m_rem (p q : Option Addr) (l c : Nat) (w : World) : (callMethod (.iface 68 (.pointer p)) "Remove" [.slice q l c].toArray).run Tryd.prog w = .ok (.enter 63 #[.pointer p, .slice q l c]) w := by kernel_rfl
theorem mo_put (p : Option Addr) {k : W} {w : World} (h : k w) : MethOk Tryd.prog (.func (.method "Put") #[.iface 68 (.pointer p)] #[]) k w := ⟨fun w' => by kernel_rfl, h⟩
theorem mo_get (p : Option Addr) {k : W} {w : World} (h : k w) : MethOk Tryd.prog (.func (.method "Get") #[.iface 68 (.pointer p)] #[]) k w := ⟨fun w' => by kernel_rfl, h⟩
theorem mo_rem (p : Option Addr) {k : W} {w : World} (h : k w) : MethOk Tryd.prog (.func (.method "Remove") #[.iface 68 (.pointer p)] #[]) k w := ⟨fun w' => by kernel_rfl, h⟩
section
variable {w : World} {k : Value → W}
theorem chk {b t i : Nat} {vs : List Value} {v : Value} {k : W} (h : Blk w b t vs) (hi : vs[i]? = some v) (hk : k w) : Chk1 ⟨b, i, none⟩ v k w := ⟨by rw [h.cell, hi], hk⟩
theorem a32 {p : Option Addr} {l c n : Nat} {I : List (Int × Int)} {x y : Int} {f : Option Addr → Nat → Nat → W} (O : SlO IK w p l c I) (B : Blk w n 27 [.int .i64 x, .int .i64 y]) (hl : l < 100000)
    (hk : ∀ p' c' w', Fr (fun b => bl p b) w w' → SlO IK w' p' (l + 1) c' (I ++ [(x, y)]) → (∀ b, bl p' b → bl p b ∨ w.heap.size ≤ b) → f p' (l + 1) c' w') :
    NextT Tryd.prog (builtin .append #[32, 32] 32 [false, false].toArray [.slice p l c, .slice (some ⟨n, 0, none⟩) 1 1].toArray) (.s (.one .slice)) f w := by
  obtain ⟨i27, g1, g2, g3, g4⟩ := inf27
  refine SlO.append (K := IK) und32 g1 g2 g3 (by decide) rfl g4 (by decide) O B (ys := [(x, y)]) (Rows.one (K := IK) ⟨rfl, rfl⟩) rfl rfl (fun u hu => ?_) (by omega) fun p' c' w' f' O' hp' => hk p' c' w' f' O' hp'
  simp only [List.mem_cons, List.not_mem_nil, or_false] at hu
  rcases hu with rfl | rfl <;> rfl
theorem a33 {p : Option Addr} {l c n : Nat} {H : List Bool} {x : Bool} {f : Option Addr → Nat → Nat → W} (O : SlO BK w p l c H) (B : Blk w n 4 [.bool x]) (hl : l < 100000)
    (hk : ∀ p' c' w', Fr (fun b => bl p b) w w' → SlO BK w' p' (l + 1) c' (H ++ [x]) → (∀ b, bl p' b → bl p b ∨ w.heap.size ≤ b) → f p' (l + 1) c' w') :
    NextT Tryd.prog (builtin .append #[33, 33] 33 [false, false].toArray [.slice p l c, .slice (some ⟨n, 0, none⟩) 1 1].toArray) (.s (.one .slice)) f w := by
  obtain ⟨i4, g1, g2, g3, g4⟩ := inf4
  refine SlO.append (K := BK) und33 g1 g2 g3 (by decide) rfl g4 (by decide) O B (ys := [x]) (Rows.one (K := BK) rfl) rfl rfl (fun u hu => ?_) (by omega) fun p' c' w' f' O' hp' => hk p' c' w' f' O' hp'
  simp only [List.mem_cons, List.not_mem_nil, or_false] at hu
  subst hu; rfl
theorem b32 {x y : Int} {f : Option Addr → Nat → Nat → W} (hk : ∀ w', Fr (fun _ => False) w w' → Blk w' w.heap.size 27 [.int .i64 x, .int .i64 y] → f (some ⟨w.heap.size, 0, none⟩) 1 1 w') : RawT Tryd.prog (Instr.buildSlice 32 1 [(0, .agg #[.int .i64 x, .int .i64 y])].toArray) (.s (.one .slice)) f w := by
  obtain ⟨i27, g1, g2, g3, g4⟩ := inf27
  exact build_intro und32 g1 g2 (by omega) (by omega) (fill27 _ _ i27 g3) fun w' f' b' _ => hk w' f' b'
theorem b33 {x : Bool} {f : Option Addr → Nat → Nat → W} (hk : ∀ w', Fr (fun _ => False) w w' → Blk w' w.heap.size 4 [.bool x] → f (some ⟨w.heap.size, 0, none⟩) 1 1 w') : RawT Tryd.prog (Instr.buildSlice 33 1 [(0, .bool x)].toArray) (.s (.one .slice)) f w := by
  obtain ⟨i4, g1, g2, g3, g4⟩ := inf4
  exact build_intro und33 g1 g2 (by omega) (by omega) (fill4 _ i4 g3) fun w' f' b' _ => hk w' f' b'
/-- An answer is noted. -/
theorem F7_J2_spec {cb mb lb C n op_l : Nat} {lru : Bool} {T : List Tri} {ag : Value → Option Addr → Nat → Nat → Option Addr → Nat → Nat → Int → Int → W} {op : Option Addr} {ol oc : Nat} {out : List Sd} {sp : Option Addr} {sl sc t : Nat} {m : Int} {p q : Option Addr} {c d : Nat} {I : List (Int × Int)} {H : List Bool} (hC : CM w cb mb lb lru C T) (ok : OkT C (its T))
    (O : SlO SaK w op ol oc out) (hol : ol < 1000) (B : Blk w n 35 [.slice p I.length c, .slice q H.length d, .int .i64 0]) (hn : ¬ bl op n) (hI : Sl IK w p I) (hH : Sl BK w q H) (ht : t < 100000)
    (hk : ∀ w' op' oc', CM w' cb mb lb lru C T → SlO SaK w' op' (ol + 1) oc' (out ++ [⟨I, H, tot (its T)⟩]) → (∀ b, bl op' b → bl op b ∨ w.heap.size ≤ b) → Fr (fun b => b = n ∨ bl op b) w w' → ag (.iface 68 (.pointer (some ⟨cb, 0, none⟩))) op' (ol + 1) oc' sp sl sc m (((t + 1 : Nat)) : Int) w') :
    F7_J2 k ag (.iface 68 (.pointer (some ⟨cb, 0, none⟩))) op ol oc ⟨n, 0, none⟩ sp sl sc m ((t : Nat) : Int) w := by
  have htt := ok.t
  have hcc := ok.c
  unfold F7_J2
  refine NextT_enter (m_sz _ w) (F64_calls ?_)
  unfold F64
  simp only [NN_mk, add_mk, Nat.zero_add]
  refine load_int (i := 1) hC.b rfl (back_int ?_)
  rw [wrap_i64 (by omega) (by omega)]
  refine store_intro (i := 2) B (by simp) rfl fun w1 b1 f1 z1 => ?_
  have b1 : Blk w1 n 35 [.slice p I.length c, .slice q H.length d, .int .i64 ((tot (its T) : Nat) : Int)] := b1
  refine load_slice (i := 0) b1 rfl (load_slice (i := 1) b1 rfl (load_int (i := 2) b1 rfl ?_))
  obtain ⟨i35, g1, g2, g3, g4⟩ := inf35
  refine build_intro und30 g1 g2 (by omega) (by omega) (fill35 _ _ _ _ _ _ _ i35 g3) fun w2 f2 b2 z2 => ?_
  have T1 : Tys (fun b => b = n) w [35] := Tys.one B
  have nt : ∀ {u : Nat}, ∀ b u us, b = n → Blk w b u us → u ∉ [27, 4] := fun b u us hb hu => by have := T1 b u us hb hu; simp at this; subst this; decide
  have hI2 := (sl_dp hI f1 (fun b u us hb hu => nt (u := 0) b u us hb hu) (dp := [27, 4]) (by decide) (fun u hu => by cases hu)).fr0 f2
  have hH2 := (sl_dp hH f1 (fun b u us hb hu => nt (u := 0) b u us hb hu) (dp := [27, 4]) (by decide) (fun u hu => by cases hu)).fr0 f2
  have O2 := (O.fr' f1 (fun b hb e => hn (by rw [← show b = n from e]; exact hb)) (fun b u us hb hu => nt (u := 0) b u us hb hu)).fr0 f2
  refine SlO.append (K := SaK) und30 g1 g2 g3 (by decide) rfl g4 (by decide) O2 b2 (ys := [⟨I, H, tot (its T)⟩]) (Rows.one (K := SaK) ⟨p, c, q, d, rfl, rfl, rfl, hI2, hH2⟩) rfl rfl (fun u hu => ?_) (by omega) fun op' oc' w3 f3 O3 hp3 => ?_
  · simp only [List.mem_cons, List.not_mem_nil, or_false] at hu
    rcases hu with rfl | rfl | rfl <;> rfl
  rw [addI_i64 (by omega) (by omega), show ((t : Nat) : Int) + 1 = ((t + 1 : Nat) : Int) by omega]
  have hC2 := (hC.fr f1 fun b hb => ⟨_, _, (show b = n from hb) ▸ B, by decide⟩).fr0 f2
  have sz1 := f1.size
  refine hk w3 op' oc' (hC2.fr f3 fun b hb => ?_) O3 (fun b hb => ?_) (((f1.mono fun b h => .inl (.inl h)).trans f2 fun b h => h.elim).trans f3 fun b h => .inl (.inr h))
  · obtain ⟨us, hu⟩ := O2.blk hb
    exact ⟨_, us, hu, by decide⟩
  · rcases hp3 b hb with h | h
    · exact .inl h
    · exact .inr (by omega)
theorem ldv {v : Option Cit} {f : Int → Int → Bool → W} (hk : f (itm v).1 (itm v).2 v.isSome w) : RawS Tryd.prog (Instr.typeAssert (oV v) 59 53 true) (.tup [(.agg [(.int .i64), (.int .i64)]), (.one .bool)]) f w := by
  cases v with
  | none => exact ⟨(0, 0, false, ()), ta_no w, hk⟩
  | some i => exact ⟨(((i.sz : Nat) : Int), i.tag, true, ()), ta_yes _ _ w, hk⟩
end
end Go.Proofs.YtmaejciimpnogaaDoor.E
