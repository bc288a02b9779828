/-
  Skip lists: items, steps and answers in memory; what is kept of an answer.
-/
import Derived.Test.YtfokodpnoiilbaaS8
import Derived.Test.YtfokodpnoiilbaaFnsC
namespace Go.Proofs.Ytfokodpnoiilbaa.E
open Go
set_option linter.unusedSimpArgs false
set_option linter.unusedVariables false
set_option maxRecDepth 100000
set_option maxHeartbeats 8000000

structure Stp where
  op : Int
  items : List Itm
  most : Int
structure Ans where
  items : List Itm
  is : List Bool
  n : Nat
def ItR (t : TypeId) : Rk Itm := ⟨t, 2, fun _ g x => g 0 = some (.int .i64 x.1) ∧ g 1 = some (.int .i64 x.2), [], fun h hP => ⟨by rw [← h 0 (by decide)]; exact hP.1, by rw [← h 1 (by decide)]; exact hP.2⟩, fun _ _ h => h⟩
abbrev ItK : Rk Itm := ItR 37
abbrev NwK : Rk Itm := ItR 67
def BoK : Rk Bool := ⟨4, 1, fun _ g x => g 0 = some (.bool x), [], fun h hP => by rw [← h 0 (by decide)]; exact hP, fun _ _ h => h⟩
theorem sl_dp {α : Type} {K : Rk α} {w w' : World} {S : Nat → Prop} {p : Option Addr} {xs : List α} {dp : List TypeId} (h : Sl K w p xs) (f : Fr S w w') (hd : ∀ b u us, S b → Blk w b u us → u ∉ dp) (ht : K.t ∈ dp) (hs : ∀ u, u ∈ K.dp → u ∈ dp) : Sl K w' p xs := by
  rcases h with h | ⟨q, o, us, rfl, hB, hR⟩
  · exact .inl h
  · exact .inr ⟨q, o, us, rfl, hB.fr f fun hS => hd _ _ _ hS hB ht, hR.fr f fun b u us hS hb e => hd _ _ _ hS hb (hs u e)⟩
def StK : Rk Stp := ⟨39, 5, fun w g s => ∃ pi ci, g 0 = some (.int .i64 s.op) ∧ g 1 = some (.int .i64 0) ∧ g 2 = some (.slice pi s.items.length ci) ∧ g 3 = some (.int .u64 0) ∧ g 4 = some (.int .i64 s.most) ∧ Sl ItK w pi s.items, [37],
  fun h ⟨pi, ci, h0, h1, h2, h3, h4, h5⟩ => ⟨pi, ci, by rw [← h 0 (by decide)]; exact h0, by rw [← h 1 (by decide)]; exact h1, by rw [← h 2 (by decide)]; exact h2, by rw [← h 3 (by decide)]; exact h3, by rw [← h 4 (by decide)]; exact h4, h5⟩,
  fun f hd ⟨pi, ci, h0, h1, h2, h3, h4, h5⟩ => ⟨pi, ci, h0, h1, h2, h3, h4, sl_dp h5 f hd (by decide) (fun u hu => by cases hu)⟩⟩
def AnK : Rk Ans := ⟨35, 3, fun w g s => ∃ pi ci ph ch, g 0 = some (.slice pi s.items.length ci) ∧ g 1 = some (.slice ph s.is.length ch) ∧ g 2 = some (.int .u64 (s.n : Nat)) ∧ Sl ItK w pi s.items ∧ Sl BoK w ph s.is, [37, 4],
  fun h ⟨pi, ci, ph, ch, h0, h1, h2, h3⟩ => ⟨pi, ci, ph, ch, by rw [← h 0 (by decide)]; exact h0, by rw [← h 1 (by decide)]; exact h1, by rw [← h 2 (by decide)]; exact h2, h3⟩,
  fun f hd ⟨pi, ci, ph, ch, h0, h1, h2, h3, h4⟩ => ⟨pi, ci, ph, ch, h0, h1, h2, sl_dp h3 f hd (by decide) (fun u hu => by cases hu), sl_dp h4 f hd (by decide) (fun u hu => by cases hu)⟩⟩

def z37 : Value := .agg #[.int .i64 0, .int .i64 0]
theorem und31 : Try.prog.underlying 31 = some (.slice 37) := by kernel_rfl
theorem und32 : Try.prog.underlying 32 = some (.slice 4) := by kernel_rfl
theorem inf37 : ∃ i, Try.prog.info? 37 = some i ∧ i.zero = some z37 ∧ i.size = 2 ∧ i.bytes ≤ 4096 := ⟨_, rfl, by kernel_rfl, by kernel_rfl, Nat.le_of_ble_eq_true (by kernel_rfl)⟩
theorem inf4 : ∃ i, Try.prog.info? 4 = some i ∧ i.zero = some (.bool false) ∧ i.size = 1 ∧ i.bytes ≤ 4096 := ⟨_, rfl, by kernel_rfl, by kernel_rfl, Nat.le_of_ble_eq_true (by kernel_rfl)⟩
theorem fill37 (x y : Int) : ∀ i : TypeInfo, i.size = 2 → Instr.fill (fun j => some (j * i.size, i.size)) ((Array.range (1 * i.size)).map (z37.cells[· % z37.cells.size]!)) [(0, .agg #[.int .i64 x, .int .i64 y])] = some [.int .i64 x, .int .i64 y].toArray := by
  intro i h; rw [h]; kernel_rfl
theorem fill4 (x : Bool) : ∀ i : TypeInfo, i.size = 1 → Instr.fill (fun j => some (j * i.size, i.size)) ((Array.range (1 * i.size)).map ((Value.bool false).cells[· % (Value.bool false).cells.size]!)) [(0, .bool x)] = some [.bool x].toArray := by
  intro i h; rw [h]; kernel_rfl
section
variable {w : World} {f : Option Addr → Nat → Nat → W}
theorem bld_it {x y : Int} (hk : ∀ n w', n = w.heap.size → Blk w' n 37 [.int .i64 x, .int .i64 y] → Fr (fun _ => False) w w' → w'.heap.size = n + 1 → f (some ⟨n, 0, none⟩) 1 1 w') :
    RawT Try.prog (Instr.buildSlice 31 1 [(0, .agg #[.int .i64 x, .int .i64 y])].toArray) (.s (.one .slice)) f w := by
  obtain ⟨i, g1, g2, g3, g4⟩ := inf37
  exact build_intro und31 g1 g2 (by omega) (by omega) (fill37 _ _ i g3) fun w1 f1 b1 z1 => hk _ w1 rfl b1 f1 z1
theorem bld_bo {x : Bool} (hk : ∀ n w', n = w.heap.size → Blk w' n 4 [.bool x] → Fr (fun _ => False) w w' → w'.heap.size = n + 1 → f (some ⟨n, 0, none⟩) 1 1 w') :
    RawT Try.prog (Instr.buildSlice 32 1 [(0, .bool x)].toArray) (.s (.one .slice)) f w := by
  obtain ⟨i, g1, g2, g3, g4⟩ := inf4
  exact build_intro und32 g1 g2 (by omega) (by omega) (fill4 _ i g3) fun w1 f1 b1 z1 => hk _ w1 rfl b1 f1 z1
variable {ty : TypeId} {cs : Array Bool} {p : Option Addr} {l c : Nat}
theorem app_it {xs : List Itm} {x : Itm} {n d : Nat} (h : SlO ItK w p l c xs) (hB : Blk w n 37 [.int .i64 x.1, .int .i64 x.2]) (hl : l < 4000000000) (hk : ∀ p' c' w', Fr (fun b => bl p b) w w' → SlO ItK w' p' (l + 1) c' (xs ++ [x]) → (∀ b, bl p' b → bl p b ∨ w.heap.size ≤ b) → f p' (l + 1) c' w') :
    NextT Try.prog (builtin .append #[31, 31] ty cs [.slice p l c, .slice (some ⟨n, 0, none⟩) 1 d].toArray) (.s (.one .slice)) f w := by
  obtain ⟨i, g1, g2, g3, g4⟩ := inf37
  refine SlO.append (K := ItK) und31 g1 g2 g3 (by decide) rfl g4 (by decide) h hB (ys := [x]) (Rows.one ⟨rfl, rfl⟩) rfl rfl (fun u hu => ?_) (by omega) hk
  simp only [List.mem_cons, List.not_mem_nil, or_false] at hu
  rcases hu with rfl | rfl <;> rfl
theorem app_bo {xs : List Bool} {x : Bool} {n d : Nat} (h : SlO BoK w p l c xs) (hB : Blk w n 4 [.bool x]) (hl : l < 4000000000) (hk : ∀ p' c' w', Fr (fun b => bl p b) w w' → SlO BoK w' p' (l + 1) c' (xs ++ [x]) → (∀ b, bl p' b → bl p b ∨ w.heap.size ≤ b) → f p' (l + 1) c' w') :
    NextT Try.prog (builtin .append #[32, 32] ty cs [.slice p l c, .slice (some ⟨n, 0, none⟩) 1 d].toArray) (.s (.one .slice)) f w := by
  obtain ⟨i, g1, g2, g3, g4⟩ := inf4
  refine SlO.append (K := BoK) und32 g1 g2 g3 (by decide) rfl g4 (by decide) h hB (ys := [x]) (Rows.one rfl) rfl rfl (fun u hu => ?_) (by omega) hk
  simp only [List.mem_cons, List.not_mem_nil, or_false] at hu
  subst hu; rfl
end
theorem chk {w : World} {b t i : Nat} {vs : List Value} {v : Value} {k : W} (h : Blk w b t vs) (hi : vs[i]? = some v) (hk : k w) : Chk1 ⟨b, i, none⟩ v k w := ⟨by rw [h.cell, hi], hk⟩
theorem blk_ty {w w' : World} {b t : Nat} {vs : List Value} {S : Nat → Prop} {ts : List TypeId} (h : Blk w b t vs) (f : Fr S w w') (hT : Tys S w ts) (ht : t ∉ ts) : Blk w' b t vs := h.fr f fun hs => ht (hT _ _ _ hs h)

/-- What the writing of an answer turns. -/
def FrB (base : Nat) (w w' : World) : Prop := ∃ S, Fr S w w' ∧ Tys S w [35, 37, 4] ∧ ∀ b, S b → base ≤ b
theorem FrB.refl (base : Nat) (w : World) : FrB base w w := ⟨fun _ => False, Fr.refl _ _, fun _ _ _ h => h.elim, fun _ h => h.elim⟩
theorem FrB.of0 {base : Nat} {w w' : World} (f : Fr (fun _ => False) w w') : FrB base w w' := ⟨fun _ => False, f, fun _ _ _ h => h.elim, fun _ h => h.elim⟩
theorem FrB.trans {base : Nat} {w w' w'' : World} (h : FrB base w w') (h' : FrB base w' w'') : FrB base w w'' := by
  obtain ⟨S, f, T, B⟩ := h
  obtain ⟨S', f', T', B'⟩ := h'
  refine ⟨fun b => S b ∨ S' b, (f.mono fun b hb => .inl (.inl hb)).trans f' fun b hb => .inl (.inr hb), fun b u us hb hu => ?_, fun b hb => hb.elim (B b) (B' b)⟩
  by_cases hS : S b
  · exact T b u us hS hu
  · exact T' b u us (hb.resolve_left hS) (hu.fr f hS)
theorem FrB.size {base : Nat} {w w' : World} (h : FrB base w w') : w.heap.size ≤ w'.heap.size := by obtain ⟨S, f, _⟩ := h; exact f.size
theorem FrB.fr {base : Nat} {w w' : World} (h : FrB base w w') {F : Nat → Prop} (hF : ∀ b, base ≤ b → F b ∨ w.heap.size ≤ b) : Fr F w w' := by
  obtain ⟨S, f, T, B⟩ := h
  exact f.mono fun b hb => hF b (B b hb)
/-- An answer that is being written. -/
def AnB (w : World) (base n : Nat) (a : Ans) : Prop := ∃ pi ci ph ch, Blk w n 35 [.slice pi a.items.length ci, .slice ph a.is.length ch, .int .u64 (a.n : Nat)] ∧ SlO ItK w pi a.items.length ci a.items ∧ SlO BoK w ph a.is.length ch a.is ∧
  base ≤ n ∧ (∀ b, bl pi b → base ≤ b) ∧ (∀ b, bl ph b → base ≤ b)
theorem AnB.fr_ty {w w' : World} {base n : Nat} {a : Ans} (h : AnB w base n a) {S : Nat → Prop} (f : Fr S w w') {ts : List TypeId} (hT : Tys S w ts) (ht : ∀ u ∈ ts, u ≠ 35 ∧ u ≠ 37 ∧ u ≠ 4) : AnB w' base n a := by
  obtain ⟨pi, ci, ph, ch, hB, hI, hH, h1, h2, h3⟩ := h
  exact ⟨pi, ci, ph, ch, blk_ty hB f hT fun hm => (ht _ hm).1 rfl, hI.fr f hT (fun u hu => ⟨(ht u hu).2.1, fun h => by cases h⟩), hH.fr f hT (fun u hu => ⟨(ht u hu).2.2, fun h => by cases h⟩), h1, h2, h3⟩
theorem AnB.fr0 {w w' : World} {base n : Nat} {a : Ans} (h : AnB w base n a) (f : Fr (fun _ => False) w w') : AnB w' base n a := h.fr_ty f (Tys.none w) (fun u hu => by cases hu)
def Ans.kp (a : Ans) (o : Option Itm) : Ans := ⟨a.items ++ [o.getD (0, 0)], a.is ++ [o.isSome], a.n⟩
def Ans.kps (a : Ans) (os : List (Option Itm)) : Ans := ⟨a.items ++ os.map (·.getD (0, 0)), a.is ++ os.map Option.isSome, a.n⟩
theorem Ans.kps_snoc (a : Ans) (os : List (Option Itm)) (o : Option Itm) : a.kps (os ++ [o]) = (a.kps os).kp o := by
  unfold Ans.kps Ans.kp; simp
theorem ta118 (x y : Int) (w : World) : (Instr.typeAssert (.iface 118 (.agg #[.int .i64 x, .int .i64 y])) 114 118 true).run Try.prog w = .ok (.tuple #[.agg #[.int .i64 x, .int .i64 y], .bool true]) w := by kernel_rfl
theorem ta118n (w : World) : (Instr.typeAssert .nilIface 114 118 true).run Try.prog w = .ok (.tuple #[.agg #[.int .i64 0, .int .i64 0], .bool false]) w := by kernel_rfl
theorem ta2 {P : Program} {s : Sem Value} {x y : Int} {b : Bool} {f : Int → Int → Bool → W} {w : World} (h : s.run P w = .ok (.tuple #[.agg #[.int .i64 x, .int .i64 y], .bool b]) w) (hk : f x y b w) : RawS P s (.tup [(.agg [(.int .i64), (.int .i64)]), (.one .bool)]) f w :=
  ⟨(x, y, b, ()), h, hk⟩
theorem ta_enc {o : Option Itm} {f : Int → Int → Bool → W} {w : World} (hk : f (o.getD (0, 0)).1 (o.getD (0, 0)).2 o.isSome w) : RawS Try.prog (Instr.typeAssert (encO o) 114 118 true) (.tup [(.agg [(.int .i64), (.int .i64)]), (.one .bool)]) f w := by
  cases o with
  | none => exact ta2 (ta118n w) hk
  | some x => exact ta2 (ta118 _ _ w) hk
/-- keep. -/
theorem F46_spec {k : Value → W} {w : World} {base n : Nat} {a : Ans} {o : Option Itm} (A : AnB w base n a) (hl : a.items.length < 4000000000) (hl2 : a.is.length < 4000000000) (hk : ∀ w', AnB w' base n (a.kp o) → FrB base w w' → k (.tuple #[]) w') : F46 k (some ⟨n, 0, none⟩) (encO o) w := by
  obtain ⟨pi, ci, ph, ch, hB, hI, hH, h1, h2, h3⟩ := A
  have hn := hB.lt
  unfold F46
  refine ta_enc ?_
  refine new_intro fun n6 w1 e1 b1 f1 z1 => ?_
  refine store_intro (i := 0) b1 (by simp) rfl fun w2 b2 f2 z2 => ?_
  refine store_intro (i := 1) b2 (by simp) rfl fun w3 b3 f3 z3 => ?_
  refine drw_intro fun w4 f4 z4 => ?_
  have f04 : Fr (fun _ => False) w w4 := (((f1.mono (S' := fun b => b = n6) fun _ h => h.elim).trans f2 fun _ h => .inl h).trans f3 (fun _ h => .inl h) |>.mono fun b h => .inr (by have h : b = n6 := h; omega)).trans f4 fun _ h => h.elim
  have hB := hB.fr f04 id
  have hI := hI.fr0 f04
  have hH := hH.fr0 f04
  have b4 := b3.fr f4 id
  generalize hx : o.getD (0, 0) = x at *
  generalize hy : o.isSome = y at *
  have hb4 : Blk w4 n6 118 [.int .i64 x.1, .int .i64 x.2] := b4
  simp only [NN_mk]
  refine load_slice (i := 0) hB rfl ?_
  refine load_int (i := 0) hb4 rfl (load_int (i := 1) hb4 rfl ?_)
  refine load_slice (i := 1) hB rfl ?_
  have hz4 := f04.size
  -- the end
  have fin : ∀ (wz : World) (pi' ph' : Option Addr) (ci' ch' : Nat), Fr (fun b => bl pi b ∨ bl ph b) w4 wz → Blk wz n 35 [.slice pi a.items.length ci, .slice ph a.is.length ch, .int .u64 (a.n : Nat)] → SlO ItK wz pi' (a.items.length + 1) ci' (a.items ++ [x]) → SlO BoK wz ph' (a.is.length + 1) ch' (a.is ++ [y]) →
      (∀ b, bl pi' b → bl pi b ∨ w4.heap.size ≤ b) → (∀ b, bl ph' b → bl ph b ∨ w4.heap.size ≤ b) →
      (Store1 ⟨n, 0, none⟩ (.slice pi' (a.items.length + 1) ci') <| Store1 ((⟨n, 0, none⟩ : Addr).add 1) (.slice ph' (a.is.length + 1) ch') <| k (.tuple #[])) wz := fun wz pi' ph' ci' ch' fz hBz hIz hHz hp1 hp2 => by
    refine store_intro (i := 0) hBz (by simp) rfl fun w8 b8 f8 z8 => ?_
    refine store_intro (i := 1) b8 (by simp) rfl fun w9 b9 f9 z9 => ?_
    have fz9 : Fr (fun b => b = n) wz w9 := f8.trans f9 fun _ h => .inl h
    have T : Tys (fun b => b = n) wz [35] := Tys.one hBz
    refine hk w9 ⟨pi', ci', ph', ch', ?_, ?_, ?_, h1, fun b hb => ?_, fun b hb => ?_⟩ ⟨fun b => b = n ∨ bl pi b ∨ bl ph b, ?_, ?_, ?_⟩
    · have := b9
      simp only [Ans.kp, List.length_append, List.length_singleton]
      exact this
    · have := hIz.fr fz9 T (by decide)
      simp only [Ans.kp, List.length_append, List.length_singleton, hx]
      exact this
    · have := hHz.fr fz9 T (by decide)
      simp only [Ans.kp, List.length_append, List.length_singleton, hy]
      exact this
    · rcases hp1 b hb with h | h
      · exact h2 b h
      · omega
    · rcases hp2 b hb with h | h
      · exact h3 b h
      · omega
    · exact ((f04.mono fun _ h => h.elim).trans fz fun b hb => .inl (.inr hb)).trans fz9 fun b hb => .inl (.inl hb)
    · intro b u us hb hu
      have hu4 := hu.fr f04 id
      rcases hb with h | h | h
      · have h : b = n := h
        rw [h] at hu4; rw [(hu4.unique hB).1]; simp
      · have := hI.ty b u us h hu4
        simp at this; subst this; decide
      · have := hH.ty b u us h hu4
        simp at this; subst this; decide
    · rintro b (h | h | h)
      · have h : b = n := h; omega
      · exact h2 b h
      · exact h3 b h
  have TI := hI.ty
  have TH := hH.ty
  have sI : ∀ {S : Nat → Prop} {b : Nat}, bl pi b → (fun b => bl pi b ∨ bl ph b) b := fun h => .inl h
  refine ⟨?_, ?_⟩
  · refine bld_it fun mI w5 e5 b5 f5 z5 => ?_
    have hB5 := hB.fr f5 id
    have m5 := hb4.fr f5 id
    have hI5 := hI.fr0 f5
    have hH5 := hH.fr0 f5
    refine chk (i := 1) hB5 rfl (chk (i := 0) hB5 rfl ?_)
    refine ⟨?_, ?_⟩
    · refine app_it hI5 b5 hl fun p6 c6 w6 f6 o6 hp6 => ?_
      have hB6 := blk_ty hB5 f6 hI5.ty (by decide)
      have m6 := blk_ty m5 f6 hI5.ty (by decide)
      have hH6 := hH5.fr f6 hI5.ty (by decide)
      have hz6 := f6.size
      refine chk (i := 1) hB6 rfl (chk (i := 0) m6 rfl (chk (i := 1) m6 rfl ?_))
      refine bld_bo fun mB w7 e7 b7 f7 z7 => ?_
      have hB7 := hB6.fr f7 id
      have m7 := m6.fr f7 id
      have hI7 := o6.fr0 f7
      have hH7 := hH6.fr0 f7
      refine chk (i := 1) hB7 rfl (chk (i := 0) m7 rfl (chk (i := 1) m7 rfl (chk (i := 0) hB7 rfl ?_)))
      refine app_bo hH7 b7 hl2 fun p8 c8 w8 f8 o8 hp8 => ?_
      have hB8 := blk_ty hB7 f8 hH7.ty (by decide)
      have m8 := blk_ty m7 f8 hH7.ty (by decide)
      have hI8 := hI7.fr f8 hH7.ty (by decide)
      refine chk (i := 0) m8 rfl (chk (i := 1) m8 rfl (chk (i := 0) hB8 rfl ?_))
      refine fin w8 p6 p8 c6 c8 ((((f5.mono fun _ h => h.elim).trans f6 fun b h => .inl (.inl h)).trans f7 fun _ h => h.elim).trans f8 fun b h => .inl (.inr h)) hB8 hI8 o8 (fun b hb => (hp6 b hb).imp id fun h => by omega) fun b hb => (hp8 b hb).imp id fun h => by omega
    · refine bld_bo fun mB w6 e6 b6 f6 z6 => ?_
      have hB6 := hB5.fr f6 id
      have m6 := m5.fr f6 id
      have hI6 := hI5.fr0 f6
      have hH6 := hH5.fr0 f6
      have b5 := b5.fr f6 id
      refine chk (i := 1) hB6 rfl (chk (i := 0) m6 rfl (chk (i := 1) m6 rfl (chk (i := 0) hB6 rfl ?_)))
      refine app_it hI6 b5 hl fun p7 c7 w7 f7 o7 hp7 => ?_
      have hB7 := blk_ty hB6 f7 hI6.ty (by decide)
      have m7 := blk_ty m6 f7 hI6.ty (by decide)
      have hH7 := hH6.fr f7 hI6.ty (by decide)
      have b7 := blk_ty b6 f7 hI6.ty (by decide)
      have hz7 := f7.size
      refine chk (i := 1) hB7 rfl (chk (i := 0) m7 rfl (chk (i := 1) m7 rfl ?_))
      refine app_bo hH7 b7 hl2 fun p8 c8 w8 f8 o8 hp8 => ?_
      have hB8 := blk_ty hB7 f8 hH7.ty (by decide)
      have m8 := blk_ty m7 f8 hH7.ty (by decide)
      have hI8 := o7.fr f8 hH7.ty (by decide)
      refine chk (i := 0) m8 rfl (chk (i := 1) m8 rfl (chk (i := 0) hB8 rfl ?_))
      refine fin w8 p7 p8 c7 c8 ((((f5.mono fun _ h => h.elim).trans f6 fun _ h => h.elim).trans f7 fun b h => .inl (.inl h)).trans f8 fun b h => .inl (.inr h)) hB8 hI8 o8 (fun b hb => (hp7 b hb).imp id fun h => by omega) fun b hb => (hp8 b hb).imp id fun h => by omega
  · refine bld_bo fun mB w5 e5 b5 f5 z5 => ?_
    have hB5 := hB.fr f5 id
    have m5 := hb4.fr f5 id
    have hI5 := hI.fr0 f5
    have hH5 := hH.fr0 f5
    refine chk (i := 1) hB5 rfl (chk (i := 0) m5 rfl (chk (i := 1) m5 rfl (chk (i := 0) hB5 rfl ?_)))
    refine bld_it fun mI w6 e6 b6 f6 z6 => ?_
    have hB6 := hB5.fr f6 id
    have m6 := m5.fr f6 id
    have hI6 := hI5.fr0 f6
    have hH6 := hH5.fr0 f6
    have b5 := b5.fr f6 id
    refine chk (i := 1) hB6 rfl (chk (i := 0) hB6 rfl ?_)
    refine app_it hI6 b6 hl fun p7 c7 w7 f7 o7 hp7 => ?_
    have hB7 := blk_ty hB6 f7 hI6.ty (by decide)
    have m7 := blk_ty m6 f7 hI6.ty (by decide)
    have hH7 := hH6.fr f7 hI6.ty (by decide)
    have b7 := blk_ty b5 f7 hI6.ty (by decide)
    have hz7 := f7.size
    refine chk (i := 1) hB7 rfl (chk (i := 0) m7 rfl (chk (i := 1) m7 rfl ?_))
    refine app_bo hH7 b7 hl2 fun p8 c8 w8 f8 o8 hp8 => ?_
    have hB8 := blk_ty hB7 f8 hH7.ty (by decide)
    have m8 := blk_ty m7 f8 hH7.ty (by decide)
    have hI8 := o7.fr f8 hH7.ty (by decide)
    refine chk (i := 0) m8 rfl (chk (i := 1) m8 rfl (chk (i := 0) hB8 rfl ?_))
    refine fin w8 p7 p8 c7 c8 ((((f5.mono fun _ h => h.elim).trans f6 fun _ h => h.elim).trans f7 fun b h => .inl (.inl h)).trans f8 fun b h => .inl (.inr h)) hB8 hI8 o8 (fun b hb => (hp7 b hb).imp id fun h => by omega) fun b hb => (hp8 b hb).imp id fun h => by omega
end Go.Proofs.Ytfokodpnoiilbaa.E
