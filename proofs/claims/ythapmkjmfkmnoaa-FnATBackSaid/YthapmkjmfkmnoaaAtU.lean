/-
  Interval trees: intervals by numbers; copies of them.
-/
import Derived.Test.YthapmkjmfkmnoaaAtT
import Derived.Test.YthapmkjmfkmnoaaArr
namespace Go.Proofs.Ythapmkjmfkmnoaa.E
open Go
set_option linter.unusedSimpArgs false
set_option linter.unusedVariables false
set_option maxRecDepth 100000
set_option maxHeartbeats 8000000

theorem und27 : Try.prog.underlying 27 = some (.slice 2) := by kernel_rfl
theorem und25 : Try.prog.underlying 25 = some (.slice 32) := by kernel_rfl
theorem inf2 : ∃ i, Try.prog.info? 2 = some i ∧ i.zero = some (.int .i64 0) ∧ i.size = 1 ∧ i.bytes ≤ 4096 := ⟨_, rfl, by kernel_rfl, by kernel_rfl, Nat.le_of_ble_eq_true (by kernel_rfl)⟩
theorem inf32 : ∃ i, Try.prog.info? 32 = some i ∧ i.zero = some z30 ∧ i.size = 3 ∧ i.bytes ≤ 4096 := ⟨_, rfl, by kernel_rfl, by kernel_rfl, Nat.le_of_ble_eq_true (by kernel_rfl)⟩
theorem fill2 (x : Int) : ∀ i' : TypeInfo, i'.size = 1 → Instr.fill (fun j => some (j * i'.size, i'.size)) ((Array.range (1 * i'.size)).map ((Value.int .i64 0).cells[· % (Value.int .i64 0).cells.size]!)) [(0, .int .i64 x)] = some [.int .i64 x].toArray := by
  intro i' h; rw [h]; kernel_rfl
section
variable {w : World} {k : Value → W} {f : Option Addr → Nat → Nat → W} {ty : TypeId} {cs : Array Bool} {p : Option Addr} {l c : Nat}
/-- A number is added to a list. -/
theorem app_int {xs : List Int} {x : Int} {n d : Nat} (h : SlO IntK w p l c xs) (hB : Blk w n 2 [.int .i64 x]) (hl : l < 4000000000) (hk : ∀ p' c' w', Fr (fun b => bl p b) w w' → SlO IntK w' p' (l + 1) c' (xs ++ [x]) → (∀ b, bl p' b → bl p b ∨ w.heap.size ≤ b) → f p' (l + 1) c' w') :
    NextT Try.prog (builtin .append #[27, 27] ty cs [.slice p l c, .slice (some ⟨n, 0, none⟩) 1 d].toArray) (.s (.one .slice)) f w := by
  obtain ⟨i, g1, g2, g3, g4⟩ := inf2
  refine SlO.append (K := IntK) und27 g1 g2 g3 (by decide) rfl g4 (by decide) h hB (ys := [x]) (Rows.one rfl) rfl rfl (fun u hu => ?_) (by omega) hk
  simp only [List.mem_cons, List.not_mem_nil, or_false] at hu
  subst hu; rfl
theorem bld_int {x : Int} (hk : ∀ n w', n = w.heap.size → Blk w' n 2 [.int .i64 x] → Fr (fun _ => False) w w' → w'.heap.size = n + 1 → f (some ⟨n, 0, none⟩) 1 1 w') :
    RawT Try.prog (Instr.buildSlice 27 1 [(0, .int .i64 x)].toArray) (.s (.one .slice)) f w := by
  obtain ⟨i, g1, g2, g3, g4⟩ := inf2
  exact build_intro und27 g1 g2 (by omega) (by omega) (fill2 _ i g3) fun w1 f1 b1 z1 => hk _ w1 rfl b1 f1 z1
/-- Eight small numbers in a row. -/
def Row8 (vs : List Value) : Prop := vs.length = 8 ∧ ∀ j, j < 8 → ∃ x : Int, vs[j]? = some (.int .i8 x)
/-- atSpan. -/
theorem F7_L1_spec {n n12 n13 n14 : Nat} {iid : Int} {vs us : List Value} (hn1 : 1 ≤ n) (hn : n ≤ 3) (b12 : Blk w n12 24 vs) (hv : Row8 vs) (b13 : Blk w n13 32 us) (hus : us.length = 3) (b14 : Blk w n14 32 [.slice none 0 0, .slice none 0 0, .int .u64 iid]) (hne : n13 ≠ n14) (hlo : n12 < n13) (hlo2 : n13 < n14)
    (hk : ∀ w' p c q d lows highs, lows.length = n → highs.length = n → Sl IntK w' p lows → Sl IntK w' q highs → Fr (fun b => n12 ≤ b) w w' → k (.agg #[.slice p n c, .slice q n d, .int .u64 iid]) w') :
    Loop [(.int .i64), .addr, .addr, .addr, (.int .i64), (.int .i64)] (F7_L1 k) ((n : Nat) : Int) ⟨n12, 0, none⟩ ⟨n13, 0, none⟩ ⟨n14, 0, none⟩ 1 0 w := by
  refine F7_L1_rule (I := fun dn m a x by' i w' => dn = ((n : Nat) : Int) ∧ m = ⟨n12, 0, none⟩ ∧ a = ⟨n13, 0, none⟩ ∧ x = ⟨n14, 0, none⟩ ∧ by' = 1 ∧ ∃ (t : Nat) (p q : Option Addr) (c d : Nat) (lows highs : List Int), i = ((t : Nat) : Int) ∧ t ≤ n ∧ Blk w' n12 24 vs ∧ Blk w' n13 32 us ∧ Blk w' n14 32 [.slice p t c, .slice q t d, .int .u64 iid] ∧ SlO IntK w' p t c lows ∧ SlO IntK w' q t d highs ∧ (∀ b, bl p b → n12 ≤ b) ∧ (∀ b, bl q b → n12 ≤ b) ∧ (∀ b, bl p b → ¬ bl q b) ∧ Fr (fun b => n12 ≤ b) w w')
    (μ := fun dn m a x by' i w' => n - i.toNat) ?_ ⟨rfl, rfl, rfl, rfl, rfl, 0, none, none, 0, 0, [], [], rfl, Nat.zero_le _, b12, b13, b14, SlO.nil _ _, SlO.nil _ _, (fun b ⟨_, h, _⟩ => by cases h), (fun b ⟨_, h, _⟩ => by cases h), (fun b ⟨_, h, _⟩ => by cases h), Fr.refl _ _⟩
  rintro _ _ _ _ _ i w1 ⟨rfl, rfl, rfl, rfl, rfl, t, p, q, c, d, lows, highs, rfl, ht, c12, c13, c14, O1, O2, hp, hq, hpq, f1⟩
  unfold F7_L1
  have z0 := c14.lt
  by_cases hlt : t < n
  · rw [decide_eq_true (show ((t : Nat) : Int) < ((n : Nat) : Int) by omega), BIf_true]
    rw [addI_i64 (show -9223372036854775808 ≤ (1 : Int) + ((t : Nat) : Int) by omega) (by omega), addI_i64 (show -9223372036854775808 ≤ (4 : Int) + ((t : Nat) : Int) by omega) (by omega), show (1 : Int) + ((t : Nat) : Int) = ((1 + t : Nat) : Int) by omega, show (4 : Int) + ((t : Nat) : Int) = ((4 + t : Nat) : Int) by omega]
    simp only [Int.toNat_natCast, add_mk, Nat.zero_add]
    obtain ⟨x1, e1⟩ := hv.2 (1 + t) (by omega)
    obtain ⟨x4, e4⟩ := hv.2 (4 + t) (by omega)
    refine Req_iff.2 ⟨by omega, load_int (i := 1 + t) c12 e1 (load_slice (i := 0) c14 rfl ?_)⟩
    generalize mulI .i64 (IntKind.wrap .i64 x1) 1 = lo
    refine bld_int fun nb w2 e2 b2 f2 z2 => ?_
    refine app_int (O1.fr0 f2) b2 (by omega) fun p' c' w3 f3 O3 hp3 => ?_
    have T3 : Tys (fun b => bl p b) w2 [2] := (O1.fr0 f2).ty
    have c12' := blk_ty (c12.fr f2 id) f3 T3 (by decide)
    have c13' := blk_ty (c13.fr f2 id) f3 T3 (by decide)
    have c14' := blk_ty (c14.fr f2 id) f3 T3 (by decide)
    refine store_intro (i := 0) c14' (by simp) rfl fun w4 b4 f4 z4 => ?_
    have b4 : Blk w4 n14 32 [.slice p' (t + 1) c', .slice q t d, .int .u64 iid] := b4
    have T4 : Tys (fun x => x = n14) w3 [32] := Tys.one c14'
    refine drw_intro fun w5 f5 z5 => ?_
    have b5 := b4.fr f5 id
    have d12 := (blk_ty c12' f4 T4 (by decide)).fr f5 id
    have d13 := (c13'.fr f4 fun e => hne e).fr f5 id
    refine load_slice (i := 1) b5 rfl ?_
    refine Req_iff.2 ⟨by omega, load_int (i := 4 + t) d12 e4 (Req_iff.2 ⟨by decide, ?_⟩)⟩
    generalize mulI .i64 (addI .i64 (IntKind.wrap .i64 x1) (IntKind.wrap .i64 (remI (IntKind.wrap .u8 x4) 60))) 1 = hi
    refine bld_int fun nb2 w6 e6 b6 f6 z6 => ?_
    have d12 := d12.fr f6 id
    have d13 := d13.fr f6 id
    have b6' := b5.fr f6 id
    refine chk (i := 4 + t) d12 e4 (chk (i := 1) b6' rfl ?_)
    have Q2 := O2.fr0 f2
    have Q3 : SlO IntK w3 q t d highs := Q2.fr' f3 (fun b hb hb' => hpq b hb' hb) (fun b u us _ _ h => by cases h)
    have Q6 : SlO IntK w6 q t d highs := ((Q3.fr f4 T4 (by decide)).fr0 f5).fr0 f6
    have O6 : SlO IntK w6 p' (t + 1) c' (lows ++ [lo]) := ((O3.fr f4 T4 (by decide)).fr0 f5).fr0 f6
    refine app_int Q6 b6 (by omega) fun q' d' w7 f7 Q7 hq7 => ?_
    have T7 : Tys (fun b => bl q b) w6 [2] := Q6.ty
    have d12 := blk_ty d12 f7 T7 (by decide)
    have d13 := blk_ty d13 f7 T7 (by decide)
    have b7 := blk_ty b6' f7 T7 (by decide)
    have z12 := f2.size
    have z23 := f3.size
    have z34 := f4.size
    have hpq' : ∀ b, bl p' b → ¬ bl q b := fun b hb hb' => by
      rcases hp3 b hb with h | h
      · exact hpq b h hb'
      · have := Q2.lt hb'; omega
    have O7 : SlO IntK w7 p' (t + 1) c' (lows ++ [lo]) := O6.fr' f7 (fun b hb hb' => hpq' b hb hb') (fun b u us _ _ h => by cases h)
    refine chk (i := 4 + t) d12 e4 ?_
    refine store_intro (i := 1) b7 (by simp) rfl fun w8 b8 f8 z8 => ?_
    have b8 : Blk w8 n14 32 [.slice p' (t + 1) c', .slice q' (t + 1) d', .int .u64 iid] := b8
    have T8 : Tys (fun x => x = n14) w7 [32] := Tys.one b7
    have g : ∀ b, n12 ≤ b → n12 ≤ b ∨ w.heap.size ≤ b := fun b h => .inl h
    rw [addI_i64 (by omega) (by omega)]
    refine ⟨⟨by trivial, by trivial, by trivial, by trivial, by trivial, t + 1, p', q', c', d', lows ++ [lo], highs ++ [hi], by omega, hlt, blk_ty d12 f8 T8 (by decide), d13.fr f8 fun e => hne e, b8, O7.fr f8 T8 (by decide), Q7.fr f8 T8 (by decide), fun b hb => ?_, fun b hb => ?_, fun b hb hb' => ?_, ?_⟩, ?_⟩
    · rcases hp3 b hb with h | h
      · exact hp b h
      · omega
    · rcases hq7 b hb with h | h
      · exact hq b h
      · have := f5.size; have := f6.size; omega
    · rcases hq7 b hb' with h | h
      · exact hpq' b hb h
      · have := O6.lt hb; omega
    · exact ((((((f1.trans f2 fun _ h => h.elim).trans f3 fun b hb => .inl (hp b hb)).trans f4 fun b hb => .inl (by have hb : b = n14 := hb; show n12 ≤ b; omega)).trans f5 fun _ h => h.elim).trans f6 fun _ h => h.elim).trans f7 fun b hb => .inl (hq b hb)).trans f8 fun b hb => .inl (by have hb : b = n14 := hb; show n12 ≤ b; omega)
    · show n - (((t : Nat) : Int) + 1).toNat < n - ((t : Nat) : Int).toNat
      omega
  · rw [decide_eq_false (show ¬ ((t : Nat) : Int) < ((n : Nat) : Int) by omega), BIf_false]
    have : t = n := by omega
    subst this
    obtain ⟨u0, u1, u2, rfl⟩ : ∃ u0 u1 u2, us = [u0, u1, u2] := by
      match us, hus with
      | [u0, u1, u2], _ => exact ⟨u0, u1, u2, rfl⟩
    simp only [add_mk, Nat.zero_add]
    refine load_slice (i := 0) c14 rfl (load_slice (i := 1) c14 rfl (load_int (i := 2) c14 rfl ?_))
    refine store_intro (i := 0) c13 (by simp) rfl fun w2 b2 f2 z2 => ?_
    refine store_intro (i := 1) b2 (by simp) rfl fun w3 b3 f3 z3 => ?_
    refine store_intro (i := 2) b3 (by simp) rfl fun w4 b4 f4 z4 => ?_
    have b4 : Blk w4 n13 32 [.slice p t c, .slice q t d, .int .u64 iid] := b4
    refine load_slice (i := 0) b4 rfl (load_slice (i := 1) b4 rfl (load_int (i := 2) b4 rfl ?_))
    have f14 : Fr (fun x => x = n13) w1 w4 := (f2.trans f3 fun _ h => .inl h).trans f4 fun _ h => .inl h
    have T4 : Tys (fun x => x = n13) w1 [32] := Tys.one c13
    have l1 := O1.len
    have l2 := O2.len
    exact hk w4 p c q d lows highs l1.symm l2.symm (O1.fr f14 T4 (by decide)).sl (O2.fr f14 T4 (by decide)).sl (f1.trans f14 fun b hb => .inl (by have hb : b = n13 := hb; show n12 ≤ b; omega))
theorem F7_spec {n : Nat} {x2 x3 x4 x5 x6 x7 x8 x9 : Int} {iid : Int} (hn1 : 1 ≤ n) (hn : n ≤ 3)
    (hk : ∀ w' p c q d lows highs, lows.length = n → highs.length = n → Sl IntK w' p lows → Sl IntK w' q highs → Fr (fun _ => False) w w' → k (.agg #[.slice p n c, .slice q n d, .int .u64 iid]) w') :
    F7 k ((n : Nat) : Int) x2 x3 x4 x5 x6 x7 x8 x9 false iid w := by
  unfold F7
  refine new_intro fun n12 w1 e1 b1 f1 z1 => new_intro fun n13 w2 e2 b2 f2 z2 => new_intro fun n14 w3 e3 b3 f3 z3 => ?_
  have c1 := (b1.fr f2 id).fr f3 id
  have c2 := b2.fr f3 id
  refine store_intro (i := 0) b3 (by simp) rfl fun w4 b4 f4 z4 => ?_
  refine store_intro (i := 1) b4 (by simp) rfl fun w5 b5 f5 z5 => ?_
  refine store_intro (i := 2) b5 (by simp) rfl fun w6 b6 f6 z6 => ?_
  have b6 : Blk w6 n14 32 [.slice none 0 0, .slice none 0 0, .int .u64 iid] := b6
  rw [BIf_false]
  unfold F7_J1
  have f36 : Fr (fun x => x = n14) w3 w6 := (f4.trans f5 fun _ h => .inl h).trans f6 fun _ h => .inl h
  have T : Tys (fun x => x = n14) w3 [32] := Tys.one b3
  have c1 := blk_ty c1 f36 T (by decide)
  have c2 := c2.fr f36 fun e => by have e : n13 = n14 := e; omega
  have f06 : Fr (fun _ => False) w w6 := (((f1.trans f2 fun _ h => h.elim).trans f3 fun _ h => h.elim).mono (S' := fun x => x = n14) fun _ h => h.elim).trans f36 (fun _ h => .inl h) |>.mono fun b h => .inr (by have h : b = n14 := h; omega)
  refine F7_L1_spec hn1 hn c1 ⟨rfl, fun j hj => ?_⟩ c2 rfl b6 (by omega) (by omega) (by omega) fun w' p c q d lows highs g1 g2 g3 g4 g5 => hk w' p c q d lows highs g1 g2 g3 g4 (f06.trans g5 fun b hb => .inr (by have hb : n12 ≤ b := hb; omega))
  match j, hj with
  | 0, _ => exact ⟨_, rfl⟩
  | 1, _ => exact ⟨_, rfl⟩
  | 2, _ => exact ⟨_, rfl⟩
  | 3, _ => exact ⟨_, rfl⟩
  | 4, _ => exact ⟨_, rfl⟩
  | 5, _ => exact ⟨_, rfl⟩
  | 6, _ => exact ⟨_, rfl⟩
  | 7, _ => exact ⟨_, rfl⟩
/-- A new list takes over another one. -/
theorem app_copy {xs : List Int} {a : Option Addr} {m n d : Nat} (hB : Blk w n 2 []) (hS : Sl IntK w a xs) (h0 : xs ≠ []) (hl : xs.length < 1000) (hm : m = xs.length) (hk : ∀ p' c' w', Fr (fun b => b = n) w w' → Sl IntK w' p' xs → f p' m c' w') :
    NextT Try.prog (builtin .append #[27, 27] ty cs [.slice (some ⟨n, 0, none⟩) 0 0, .slice a m d].toArray) (.s (.one .slice)) f w := by
  subst hm
  obtain ⟨i, g1, g2, g3, g4⟩ := inf2
  rcases hS with h | ⟨q, o, us, rfl, hB', hR⟩
  · exact absurd h h0
  have ow : OwnN w 2 1 (some ⟨n, 0, none⟩) 0 0 ([] : List Value) := OwnN.made hB rfl (by decide)
  have cell : ∀ j u, (ints xs)[j]? = some u → w.cell? ((⟨q, o, none⟩ : Addr).add j) = some u := fun j u hu => by
    rw [ints_get] at hu
    obtain ⟨x, hx, rfl⟩ := Option.map_eq_some_iff.1 hu
    have := hR j x hx
    have h2 : us[o + j * 1 + 0]? = some (.int .i64 x) := this
    rw [add_mk, hB'.cell, ← h2]
    congr 1; omega
  have := append_own (f := f) (ty := ty) (cs := cs) (d := d) und27 g1 g2 g3 (by decide) rfl g4 ow (m := xs.length) (news := ints xs) (by simp [ints]) cell (fun u hu => ?_) (by omega) fun p' c' w' f' O' hp' => ?_
  · exact this
  · obtain ⟨x, _, rfl⟩ := List.mem_map.1 hu; rfl
  · rw [Nat.zero_add] at O' ⊢
    refine hk p' c' w' (f'.mono fun b ⟨a, h1, h2⟩ => .inl (by cases h1; exact h2.symm)) ?_
    have hlen : 0 < xs.length := List.length_pos_iff.2 h0
    obtain ⟨q', rest, rfl, hB2⟩ := O'.get hlen
    refine .inr ⟨q', 0, _, rfl, hB2, fun i x hx => ?_⟩
    show ([] ++ ints xs ++ rest)[0 + i * 1 + 0]? = some (.int .i64 x)
    rw [List.nil_append, show 0 + i * 1 + 0 = i by omega, List.getElem?_append_left (by rw [show (ints xs).length = xs.length by simp [ints]]; exact (List.getElem?_eq_some_iff.1 hx).1), ints_get, hx]; rfl
theorem bld_none {f : Option Addr → Nat → Nat → W} (hk : ∀ n w', n = w.heap.size → Fr (fun _ => False) w w' → Blk w' n 2 [] → w'.heap.size = n + 1 → f (some ⟨n, 0, none⟩) 0 0 w') :
    RawT Try.prog (Instr.buildSlice 27 0 [].toArray) (.s (.one .slice)) f w := by
  obtain ⟨i, g1, g2, g3, g4⟩ := inf2
  exact build_none und27 g1 fun w' f' b' z' => hk _ w' rfl f' b' z'
end
end Go.Proofs.Ythapmkjmfkmnoaa.E
