/-
  Range trees: the statements' own functions (rtDot, rtIn, rtBox, rtMade, rtVals, SPSame).
-/
import Derived.Test.YtfokodpnoiilbaaGreatRF
import Derived.Test.YtfokodpnoiilbaaGreatArr
namespace Go.Proofs.YtfokodpnoiilbaaGreat.E
open Go
set_option linter.unusedSimpArgs false
set_option linter.unusedVariables false
set_option maxRecDepth 100000
set_option maxHeartbeats 8000000

theorem und47 : Tryz.prog.underlying 28 = some (.slice 2) := by kernel_rfl
theorem und24 : Tryz.prog.underlying 26 = some (.slice 3) := by kernel_rfl
theorem inf2r : ∃ i, Tryz.prog.info? 2 = some i ∧ i.zero = some (.int .i64 0) ∧ i.size = 1 ∧ i.bytes ≤ 4096 := ⟨_, rfl, by kernel_rfl, by kernel_rfl, Nat.le_of_ble_eq_true (by kernel_rfl)⟩
theorem inf3r : ∃ i, Tryz.prog.info? 3 = some i ∧ i.zero = some (.int .i64 0) ∧ i.size = 1 ∧ i.bytes ≤ 4096 := ⟨_, rfl, by kernel_rfl, by kernel_rfl, Nat.le_of_ble_eq_true (by kernel_rfl)⟩
theorem fill1r (x : Int) : ∀ i' : TypeInfo, i'.size = 1 → Instr.fill (fun j => some (j * i'.size, i'.size)) ((Array.range (1 * i'.size)).map ((Value.int .i64 0).cells[· % (Value.int .i64 0).cells.size]!)) [(0, .int .i64 x)] = some [.int .i64 x].toArray := by
  intro i' h; rw [h]; kernel_rfl
def InK3 : Rk Int := ⟨3, 1, fun _ g x => g 0 = some (.int .i64 x), [], fun h h0 => by rw [← h 0 (by decide)]; exact h0, fun _ _ h => h⟩
section
variable {w : World} {k : Value → W} {f : Option Addr → Nat → Nat → W} {ty : TypeId} {cs : Array Bool} {p : Option Addr} {l c : Nat}
theorem app_i64 {xs : List Int} {x : Int} {n d : Nat} (h : SlO In64K w p l c xs) (hB : Blk w n 2 [.int .i64 x]) (hl : l < 4000000000) (hk : ∀ p' c' w', Fr (fun b => bl p b) w w' → SlO In64K w' p' (l + 1) c' (xs ++ [x]) → (∀ b, bl p' b → bl p b ∨ w.heap.size ≤ b) → f p' (l + 1) c' w') :
    NextT Tryz.prog (builtin .append #[28, 28] ty cs [.slice p l c, .slice (some ⟨n, 0, none⟩) 1 d].toArray) (.s (.one .slice)) f w := by
  obtain ⟨i, g1, g2, g3, g4⟩ := inf2r
  refine SlO.append (K := In64K) und47 g1 g2 g3 (by decide) rfl g4 (by decide) h hB (ys := [x]) (Rows.one rfl) rfl rfl (fun u hu => ?_) (by omega) hk
  simp only [List.mem_cons, List.not_mem_nil, or_false] at hu
  subst hu; rfl
theorem bld_i64 {x : Int} (hk : ∀ n w', n = w.heap.size → Blk w' n 2 [.int .i64 x] → Fr (fun _ => False) w w' → w'.heap.size = n + 1 → f (some ⟨n, 0, none⟩) 1 1 w') :
    RawT Tryz.prog (Instr.buildSlice 28 1 [(0, .int .i64 x)].toArray) (.s (.one .slice)) f w := by
  obtain ⟨i, g1, g2, g3, g4⟩ := inf2r
  exact build_intro und47 g1 g2 (by omega) (by omega) (fill1r _ i g3) fun w1 f1 b1 z1 => hk _ w1 rfl b1 f1 z1
/-- Eight small numbers in a row. -/
def RowE (vs : List Value) : Prop := vs.length = 8 ∧ ∀ j, j < 8 → ∃ x : Int, vs[j]? = some (.int .i8 x)
theorem rowE_mk (x0 x1 x2 x3 x4 x5 x6 x7 : Int) : RowE [.int .i8 x0, .int .i8 x1, .int .i8 x2, .int .i8 x3, .int .i8 x4, .int .i8 x5, .int .i8 x6, .int .i8 x7] :=
  ⟨rfl, fun j hj => match j, hj with
    | 0, _ => ⟨x0, rfl⟩
    | 1, _ => ⟨x1, rfl⟩
    | 2, _ => ⟨x2, rfl⟩
    | 3, _ => ⟨x3, rfl⟩
    | 4, _ => ⟨x4, rfl⟩
    | 5, _ => ⟨x5, rfl⟩
    | 6, _ => ⟨x6, rfl⟩
    | 7, _ => ⟨x7, rfl⟩⟩
/-- rtDot. -/
theorem F12_spec {n : Nat} {x2 x3 x4 x5 x6 x7 x8 x9 val : Int} (hn : n ≤ 3)
    (hk : ∀ w' p c l, l.length = n → Sl In64K w' p l → Fr (fun _ => False) w w' → k (.agg #[.slice p n c, .int .i64 val]) w') : F12 k ((n : Nat) : Int) x2 x3 x4 x5 x6 x7 x8 x9 val w := by
  unfold F12
  refine new_intro fun n11 w1 e1 b1 f1 z1 => new_intro fun n12 w2 e2 b2 f2 z2 => new_intro fun n13 w3 e3 b3 f3 z3 => ?_
  refine store_intro (i := 0) b3 (by simp) rfl fun w4 b4 f4 z4 => ?_
  refine store_intro (i := 1) b4 (by simp) rfl fun w5 b5 f5 z5 => ?_
  have b5 : Blk w5 n13 47 [.slice none 0 0, .int .i64 val] := b5
  have hv := rowE_mk x2 x3 x4 x5 x6 x7 x8 x9
  generalize [Value.int .i8 x2, .int .i8 x3, .int .i8 x4, .int .i8 x5, .int .i8 x6, .int .i8 x7, .int .i8 x8, .int .i8 x9] = vs at b1 hv
  have h35 : Fr (fun b => b = n13) w3 w5 := f4.trans f5 fun _ h => .inl h
  have c11 : Blk w5 n11 45 vs := ((b1.fr f2 id).fr f3 id).fr h35 (fun e => by omega)
  have c12 : Blk w5 n12 47 [.slice none 0 0, .int .i64 0] := (b2.fr f3 id).fr h35 (fun e => by omega)
  have f05 : Fr (fun _ => False) w w5 := (((f1.trans f2 fun _ h => h.elim).trans f3 fun _ h => h.elim).trans h35 fun b hb => .inr (by have hb : b = n13 := hb; omega))
  refine F12_L1_rule (I := fun dn m a x i w' => dn = ((n : Nat) : Int) ∧ m = ⟨n11, 0, none⟩ ∧ a = ⟨n12, 0, none⟩ ∧ x = ⟨n13, 0, none⟩ ∧ ∃ (t : Nat) (p : Option Addr) (c : Nat) (l : List Int), i = ((t : Nat) : Int) ∧ t ≤ n ∧ Blk w' n11 45 vs ∧ Blk w' n12 47 [.slice none 0 0, .int .i64 0] ∧ Blk w' n13 47 [.slice p t c, .int .i64 val] ∧ SlO In64K w' p t c l ∧ (∀ b, bl p b → w.heap.size ≤ b) ∧ Fr (fun _ => False) w w')
    (μ := fun dn m a x i w' => n - i.toNat) ?_ ⟨rfl, rfl, rfl, rfl, 0, none, 0, [], rfl, Nat.zero_le _, c11, c12, b5, SlO.nil _ _, (fun b ⟨_, h, _⟩ => by cases h), f05⟩
  rintro _ _ _ _ i w6 ⟨rfl, rfl, rfl, rfl, t, p, c, l, rfl, ht, c11, c12, c13, O, hp, f6⟩
  unfold F12_L1
  by_cases hlt : t < n
  · rw [decide_eq_true (show ((t : Nat) : Int) < ((n : Nat) : Int) by omega), BIf_true]
    refine drw_intro fun w7 f7 z7 => ?_
    have d11 := c11.fr f7 id
    have d13 := c13.fr f7 id
    refine load_slice (i := 0) d13 rfl ?_
    rw [addI_i64 (show -9223372036854775808 ≤ (1 : Int) + ((t : Nat) : Int) by omega) (by omega), show (1 : Int) + ((t : Nat) : Int) = ((1 + t : Nat) : Int) by omega]
    simp only [Int.toNat_natCast, add_mk, Nat.zero_add]
    obtain ⟨x1, e1⟩ := hv.2 (1 + t) (by omega)
    refine Req_iff.2 ⟨by omega, load_int (i := 1 + t) d11 e1 (Req_iff.2 ⟨by decide, ?_⟩)⟩
    generalize IntKind.wrap .i64 (remI x1 12) = v
    refine bld_i64 fun nb w8 e8 b8 f8 z8 => ?_
    have d11 := d11.fr f8 id
    have d13 := d13.fr f8 id
    refine chk (i := 1 + t) d11 e1 (chk (i := 0) d13 rfl ?_)
    have O8 := (O.fr0 f7).fr0 f8
    refine app_i64 O8 b8 (by omega) fun p' c' w9 f9 O9 hp9 => ?_
    have T9 : Tys (fun b => bl p b) w8 [2] := O8.ty
    have d11 := blk_ty d11 f9 T9 (by decide)
    have d13 := blk_ty d13 f9 T9 (by decide)
    refine chk (i := 1 + t) d11 e1 ?_
    refine store_intro (i := 0) d13 (by simp) rfl fun wa ba fa za => ?_
    have ba : Blk wa n13 47 [.slice p' (t + 1) c', .int .i64 val] := ba
    have Ta : Tys (fun x => x = n13) w9 [47] := Tys.one d13
    have d12 : Blk wa n12 47 [.slice none 0 0, .int .i64 0] := (blk_ty ((c12.fr f7 id).fr f8 id) f9 T9 (by decide)).fr fa (fun e => by omega)
    have z6 := f6.size
    have z7' := f7.size
    rw [addI_i64 (by omega) (by omega)]
    refine ⟨⟨by trivial, by trivial, by trivial, by trivial, t + 1, p', c', _, by omega, hlt, blk_ty d11 fa Ta (by decide), d12, ba, O9.fr fa Ta (by decide), fun b hb => ?_, ?_⟩, ?_⟩
    · rcases hp9 b hb with h | h
      · exact hp b h
      · omega
    · exact (((f6.trans f7 fun _ h => h.elim).trans f8 fun _ h => h.elim).trans f9 fun b hb => .inr (hp b hb)).trans fa fun b hb => .inr (by have hb : b = n13 := hb; omega)
    · show n - (((t : Nat) : Int) + 1).toNat < n - ((t : Nat) : Int).toNat
      omega
  · rw [decide_eq_false (show ¬ ((t : Nat) : Int) < ((n : Nat) : Int) by omega), BIf_false]
    have : t = n := by omega
    subst this
    simp only [add_mk, Nat.zero_add]
    refine load_slice (i := 0) c13 rfl (load_int (i := 1) c13 rfl ?_)
    refine store_intro (i := 0) c12 (by simp) rfl fun w7 b7 f7 z7 => ?_
    refine store_intro (i := 1) b7 (by simp) rfl fun w8 b8 f8 z8 => ?_
    have b8 : Blk w8 n12 47 [.slice p t c, .int .i64 val] := b8
    refine load_slice (i := 0) b8 rfl (load_int (i := 1) b8 rfl ?_)
    have T : Tys (fun x => x = n12) w6 [47] := Tys.one c12
    have f68 : Fr (fun b => b = n12) w6 w8 := f7.trans f8 fun _ h => .inl h
    exact hk w8 p c l O.len.symm (O.sl.fr f68 T (by decide)) (f6.trans f68 fun b hb => .inr (by have hb : b = n12 := hb; omega))
/-- rtIn. -/
theorem F11_spec {l : List Int} {x : Int} {c : Nat} (hS : Sl In64K w p l) (hl : l.length < 1000) (hk : ∀ w' p' c', Sl In64K w' p' l → Fr (fun _ => False) w w' → k (.agg #[.slice p' l.length c', .int .i64 x]) w') : F11 k p l.length c x w := by
  unfold F11
  refine new_intro fun n3 w1 e1 b1 f1 z1 => new_intro fun n4 w2 e2 b2 f2 z2 => drw_intro fun w3 f3 z3 => ?_
  have b13 := (b1.fr f2 id).fr f3 id
  have b23 := b2.fr f3 id
  refine load_slice (i := 0) b13 rfl (load_int (i := 1) b13 rfl ?_)
  obtain ⟨i, g1, g2, g3, g4⟩ := inf2r
  refine build_none und47 g1 fun w4 f4 b4 z4 => ?_
  have b14 := b13.fr f4 id
  refine chk (i := 1) b14 rfl (chk (i := 0) b14 rfl ?_)
  have o4 : SlO In64K w4 (some ⟨w3.heap.size, 0, none⟩) 0 0 [] := SlO.made (K := In64K) b4 rfl (by decide) rfl (Rows.nil _ _ _ _)
  have f04 : Fr (fun _ => False) w w4 := ((f1.trans f2 fun _ h => h.elim).trans f3 fun _ h => h.elim).trans f4 fun _ h => h.elim
  refine app_sl (K := In64K) (fun j h hj => ?_) und47 g1 g2 g3 (by decide) rfl g4 (by decide) o4 (hS.fr0 f04) rfl (by omega) fun p5 c5 w5 f5 o5 hp5 => ?_
  · have hj : j < 1 := hj
    have : j = 0 := by omega
    subst this
    exact ⟨_, h, rfl⟩
  have T5 : Tys (fun b => bl (some ⟨w3.heap.size, 0, none⟩) b) w4 [2] := o4.ty
  have b15 := blk_ty b14 f5 T5 (by decide)
  have b25 := blk_ty (b23.fr f4 id) f5 T5 (by decide)
  refine chk (i := 1) b15 rfl ?_
  refine store_intro (i := 0) b25 (by simp) rfl fun w6 b6 f6 z6 => ?_
  refine store_intro (i := 1) b6 (by simp) rfl fun w7 b7 f7 z7 => ?_
  have hlen := o5.len
  rw [List.nil_append] at o5 hlen
  rw [hlen] at b7
  have b7 : Blk w7 n4 42 [.slice p5 l.length c5, .int .i64 x] := b7
  refine load_slice (i := 0) b7 rfl (load_int (i := 1) b7 rfl ?_)
  have T : Tys (fun x => x = n4) w5 [42] := Tys.one b25
  have f57 : Fr (fun b => b = n4) w5 w7 := f6.trans f7 fun _ h => .inl h
  have z1' := f1.size
  have z2' := f2.size
  have z3' := f3.size
  exact hk w7 p5 c5 (o5.sl.fr f57 T (by decide)) ((f04.trans f5 fun b hb => .inr (by have := bl_q.1 hb; omega)).trans f57 fun b hb => .inr (by have hb : b = n4 := hb; omega))
/-- rtBox. -/
theorem F13_spec {n : Nat} {x2 x3 x4 x5 x6 x7 x8 x9 : Int} (hn : n ≤ 3)
    (hk : ∀ w' p c q d lo hi, lo.length = n → hi.length = n → Sl In64K w' p lo → Sl In64K w' q hi → Fr (fun _ => False) w w' → k (.tuple #[.slice p n c, .slice q n d]) w') : F13 k ((n : Nat) : Int) x2 x3 x4 x5 x6 x7 x8 x9 w := by
  unfold F13
  refine new_intro fun n10 w1 e1 b1 f1 z1 => ?_
  have hv := rowE_mk x2 x3 x4 x5 x6 x7 x8 x9
  generalize [Value.int .i8 x2, .int .i8 x3, .int .i8 x4, .int .i8 x5, .int .i8 x6, .int .i8 x7, .int .i8 x8, .int .i8 x9] = vs at b1 hv
  refine F13_L1_rule (I := fun dn m pp pl pc qp ql qc i w' => dn = ((n : Nat) : Int) ∧ m = ⟨n10, 0, none⟩ ∧ ∃ (t : Nat) (lo hi : List Int), i = ((t : Nat) : Int) ∧ t ≤ n ∧ pl = t ∧ ql = t ∧ Blk w' n10 45 vs ∧ SlO In64K w' pp t pc lo ∧ SlO In64K w' qp t qc hi ∧ (∀ b, bl pp b → w.heap.size ≤ b) ∧ (∀ b, bl qp b → w.heap.size ≤ b) ∧ (∀ b, bl pp b → ¬ bl qp b) ∧ Fr (fun _ => False) w w')
    (μ := fun dn m pp pl pc qp ql qc i w' => n - i.toNat) ?_ ⟨rfl, rfl, 0, [], [], rfl, Nat.zero_le _, rfl, rfl, b1, SlO.nil _ _, SlO.nil _ _, (fun b ⟨_, h, _⟩ => by cases h), (fun b ⟨_, h, _⟩ => by cases h), (fun b ⟨_, h, _⟩ => by cases h), f1⟩
  rintro _ _ pp pl pc qp ql qc i w6 ⟨rfl, rfl, t, lo, hi, rfl, ht, e1, e2, c10, O, Q, hp, hq, hpq, f6⟩
  unfold F13_L1
  rw [e1, e2]
  by_cases hlt : t < n
  · rw [decide_eq_true (show ((t : Nat) : Int) < ((n : Nat) : Int) by omega), BIf_true]
    rw [addI_i64 (show -9223372036854775808 ≤ (1 : Int) + ((t : Nat) : Int) by omega) (by omega), addI_i64 (show -9223372036854775808 ≤ (4 : Int) + ((t : Nat) : Int) by omega) (by omega), show (1 : Int) + ((t : Nat) : Int) = ((1 + t : Nat) : Int) by omega, show (4 : Int) + ((t : Nat) : Int) = ((4 + t : Nat) : Int) by omega]
    simp only [Int.toNat_natCast, add_mk, Nat.zero_add]
    obtain ⟨x1, e1⟩ := hv.2 (1 + t) (by omega)
    obtain ⟨y4, e4⟩ := hv.2 (4 + t) (by omega)
    refine Req_iff.2 ⟨by omega, load_int (i := 1 + t) c10 e1 (Req_iff.2 ⟨by decide, ?_⟩)⟩
    generalize hlo : IntKind.wrap .i64 (remI x1 12) = v
    refine bld_i64 fun nb w8 e8 b8 f8 z8 => ?_
    have O8 := O.fr0 f8
    have Q8 := Q.fr0 f8
    refine app_i64 O8 b8 (by omega) fun p' c' w9 f9 O9 hp9 => ?_
    have T9 : Tys (fun b => bl pp b) w8 [2] := O8.ty
    have d10 := blk_ty (c10.fr f8 id) f9 T9 (by decide)
    have Q9 : SlO In64K w9 qp t qc hi := Q8.fr' f9 (fun b hb hb' => hpq b hb' hb) (fun b u us _ _ h => by cases h)
    refine drw_intro fun wa fa za => ?_
    have d10 := d10.fr fa id
    refine Req_iff.2 ⟨by omega, load_int (i := 1 + t) d10 e1 (Req_iff.2 ⟨by decide, Req_iff.2 ⟨by omega, load_int (i := 4 + t) d10 e4 (Req_iff.2 ⟨by decide, ?_⟩)⟩⟩)⟩
    rw [hlo]
    generalize addI .i64 v (IntKind.wrap .i64 (remI (IntKind.wrap .u8 y4) 16)) = v2
    refine bld_i64 fun nb2 wb eb bb fb zb => ?_
    have d10 := d10.fr fb id
    refine chk (i := 4 + t) d10 e4 (chk (i := 1 + t) d10 e1 ?_)
    have Qb := (Q9.fr0 fa).fr0 fb
    have Ob := (O9.fr0 fa).fr0 fb
    refine app_i64 Qb bb (by omega) fun q' d' wc fc Qc hqc => ?_
    have Tc : Tys (fun b => bl qp b) wb [2] := Qb.ty
    have d10 := blk_ty d10 fc Tc (by decide)
    refine chk (i := 4 + t) d10 e4 (chk (i := 1 + t) d10 e1 ?_)
    have z6 := f6.size
    have z8' := f8.size
    have z9' := f9.size
    have za' := fa.size
    have zb' := fb.size
    have hpq' : ∀ b, bl p' b → ¬ bl qp b := fun b hb hb' => by
      rcases hp9 b hb with h | h
      · exact hpq b h hb'
      · have := Q8.lt hb'; omega
    have Oc : SlO In64K wc p' (t + 1) c' (lo ++ [v]) := Ob.fr' fc (fun b hb hb' => hpq' b hb hb') (fun b u us _ _ h => by cases h)
    rw [addI_i64 (by omega) (by omega)]
    refine ⟨⟨by trivial, by trivial, t + 1, lo ++ [v], hi ++ [v2], by omega, hlt, by trivial, by trivial, d10, Oc, Qc, fun b hb => ?_, fun b hb => ?_, fun b hb hb' => ?_, ?_⟩, ?_⟩
    · rcases hp9 b hb with h | h
      · exact hp b h
      · omega
    · rcases hqc b hb with h | h
      · exact hq b h
      · omega
    · rcases hqc b hb' with h | h
      · exact hpq' b hb h
      · have := Ob.lt hb; omega
    · exact ((((f6.trans f8 fun _ h => h.elim).trans f9 fun b hb => .inr (hp b hb)).trans fa fun _ h => h.elim).trans fb fun _ h => h.elim).trans fc fun b hb => .inr (hq b hb)
    · show n - (((t : Nat) : Int) + 1).toNat < n - ((t : Nat) : Int).toNat
      omega
  · rw [decide_eq_false (show ¬ ((t : Nat) : Int) < ((n : Nat) : Int) by omega), BIf_false]
    have : t = n := by omega
    subst this
    exact hk w6 pp pc qp qc lo hi O.len.symm Q.len.symm O.sl Q.sl f6
/-- rtVals. -/
theorem F10_spec {xs : List PD} {c : Nat} (hS : Sl (DoK 42) w p xs) (hl : xs.length < 1000000) (hk : ∀ w' p' c', SlO InK3 w' p' xs.length c' (xs.map Prod.snd) → Fr (fun _ => False) w w' → k (.slice p' xs.length c') w') : F10 k p xs.length c w := by
  obtain ⟨i3, g1, g2, g3, g4⟩ := inf3r
  unfold F10
  refine F10_L1_rule (I := fun sp sl sc op ol oc i w' => sp = p ∧ sl = xs.length ∧ ∃ t : Nat, i = ((t : Nat) : Int) ∧ t ≤ xs.length ∧ ol = t ∧ SlO InK3 w' op t oc ((xs.take t).map Prod.snd) ∧ (∀ b, bl op b → w.heap.size ≤ b) ∧ Fr (fun _ => False) w w')
    (μ := fun sp sl sc op ol oc i w' => xs.length - i.toNat) ?_ ⟨rfl, rfl, 0, rfl, Nat.zero_le _, rfl, SlO.nil _ _, (fun b ⟨_, h, _⟩ => by cases h), Fr.refl _ _⟩
  rintro sp sl sc op ol oc i w1 ⟨e1, e2, t, rfl, ht, e3, O, hp, f1⟩
  unfold F10_L1
  rw [e1, e2, e3]
  by_cases hlt : t < xs.length
  · rw [decide_eq_true (show ((t : Nat) : Int) < ((xs.length : Nat) : Int) by omega), BIf_true]
    have hx : xs[t]? = some xs[t] := List.getElem?_eq_getElem hlt
    generalize xs[t] = x at hx
    obtain ⟨q, o, ep, xp, xc, c0, c1, hI⟩ := (hS.fr0 f1).get hx
    rw [ep]
    simp only [NN_mk, Int.toNat_natCast, add_mk]
    refine Req_iff.2 ⟨by omega, LoadT_int.2 ⟨_, c1, ?_⟩⟩
    refine build_intro und24 g1 g2 (by omega) (by omega) (fill1r _ i3 g3) fun w2 f2 b2 z2 => ?_
    refine SlO.append (K := InK3) und24 g1 g2 g3 (by decide) rfl g4 (by decide) (O.fr0 f2) b2 (ys := [x.2]) (Rows.one rfl) rfl rfl (fun u hu => ?_) (by omega) fun p' c' w3 f3 O3 hp3 => ?_
    · simp only [List.mem_cons, List.not_mem_nil, or_false] at hu
      subst hu; rfl
    have z1 := f1.size
    rw [addI_i64 (by omega) (by omega)]
    refine ⟨⟨by trivial, by trivial, t + 1, by omega, hlt, by trivial, ?_, fun b hb => ?_, (f1.trans f2 fun _ h => h.elim).trans f3 fun b hb => .inr (hp b hb)⟩, ?_⟩
    · rw [take_snoc hx, List.map_append]; exact O3
    · rcases hp3 b hb with h | h
      · exact hp b h
      · omega
    · show xs.length - (((t : Nat) : Int) + 1).toNat < xs.length - ((t : Nat) : Int).toNat
      omega
  · rw [decide_eq_false (show ¬ ((t : Nat) : Int) < ((xs.length : Nat) : Int) by omega), BIf_false]
    have : t = xs.length := by omega
    subst this
    rw [List.take_length] at O
    exact hk w1 op oc O f1
/-- SPSame of the same. -/
theorem F9_spec {a : List Int} {q : Option Addr} {c d m m' : Nat} (ha : Sl InK3 w p a) (hb : Sl InK3 w q a) (hm' : m' = a.length) (hm : m = a.length) (hl : a.length < 1000000) (hk : ∀ w', Fr (fun _ => False) w w' → k (.bool true) w') : F9 k p m' c q m d w := by
  subst hm hm'
  have get : ∀ {w : World} {p : Option Addr}, Sl InK3 w p a → ∀ {i : Nat} {x : Int}, a[i]? = some x → ∃ q o, p = some ⟨q, o, none⟩ ∧ w.cell? ⟨q, o + i, none⟩ = some (.int .i64 x) := fun {w p} h {i x} hx => by
    obtain ⟨q, o, rfl, g0⟩ := h.get hx
    refine ⟨q, o, rfl, ?_⟩
    have : w.cell? ⟨q, o + i * 1 + 0, none⟩ = some (.int .i64 x) := g0
    rw [show o + i * 1 + 0 = o + i by omega] at this; exact this
  unfold F9
  rw [show (((a.length : Nat) : Int) != ((a.length : Nat) : Int)) = false by simp, BIf_false]
  refine F9_L1_rule (I := fun ap al ac bp bl' bc i w' => ap = p ∧ al = a.length ∧ bp = q ∧ bl' = a.length ∧ ∃ t : Nat, i = ((t : Nat) : Int) ∧ t ≤ a.length ∧ Fr (fun _ => False) w w')
    (μ := fun ap al ac bp bl' bc i w' => a.length - i.toNat) ?_ ⟨rfl, rfl, rfl, rfl, 0, rfl, Nat.zero_le _, Fr.refl _ _⟩
  rintro ap al ac bp bl' bc i w1 ⟨e1, e2, e3, e4, t, rfl, ht, f1⟩
  unfold F9_L1
  rw [e1, e2, e3, e4]
  by_cases hlt : t < a.length
  · rw [decide_eq_true (show ((t : Nat) : Int) < ((a.length : Nat) : Int) by omega), BIf_true]
    have hx : a[t]? = some a[t] := List.getElem?_eq_getElem hlt
    generalize a[t] = x at hx
    refine drw_intro fun w2 f2 z2 => ?_
    have f02 := f1.trans f2 fun _ h => h.elim
    obtain ⟨qa, oa, epa, ca⟩ := get (ha.fr0 f02) hx
    obtain ⟨qb, ob, epb, cb⟩ := get (hb.fr0 f02) hx
    rw [epa, epb]
    simp only [NN_mk, Int.toNat_natCast, add_mk]
    refine Req_iff.2 ⟨by omega, LoadT_int.2 ⟨_, ca, Req_iff.2 ⟨by omega, LoadT_int.2 ⟨_, cb, ?_⟩⟩⟩⟩
    rw [show (x != x) = false by simp, BIf_false, addI_i64 (by omega) (by omega)]
    refine ⟨⟨by trivial, by trivial, by trivial, by trivial, t + 1, by omega, hlt, f02⟩, ?_⟩
    show a.length - (((t : Nat) : Int) + 1).toNat < a.length - ((t : Nat) : Int).toNat
    omega
  · rw [decide_eq_false (show ¬ ((t : Nat) : Int) < ((a.length : Nat) : Int) by omega), BIf_false]
    exact hk w1 f1
end
end Go.Proofs.YtfokodpnoiilbaaGreat.E
