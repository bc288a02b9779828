/-
  Range trees of skip lists: moves that are not negative (srMoves), entries of them.
-/
import Derived.Test.YtfokodpnoiilbaaGreatQ8
import Derived.Test.YtfokodpnoiilbaaGreatRG
namespace Go.Proofs.YtfokodpnoiilbaaGreat.E
open Go
set_option linter.unusedSimpArgs false
set_option linter.unusedVariables false
set_option maxRecDepth 100000
set_option maxHeartbeats 8000000

theorem wrap_u8_rng (n : Int) : 0 ≤ IntKind.wrap .u8 n ∧ IntKind.wrap .u8 n < 256 := by
  simp only [IntKind.wrap, IntKind.bits, IntKind.signed]; simp; omega
theorem plI_pos {l : List Int} (h : ∀ v ∈ l, 0 ≤ v ∧ v < 12) (i : Nat) : 0 ≤ plI l i ∧ plI l i < 12 := by
  unfold plI
  split
  · exact ⟨Int.le_refl _, by decide⟩
  · rw [List.getD_eq_getElem?_getD]
    cases hq : l[i - 1]? with
    | none => exact ⟨Int.le_refl _, by decide⟩
    | some x => exact h x (List.mem_of_getElem? hq)
theorem and127 (x : Int) : 0 ≤ andI .i8 x 127 := by
  unfold andI
  have h : (BitVec.ofInt 8 x &&& BitVec.ofInt 8 127).toNat ≤ 127 := by
    rw [BitVec.toNat_and]
    exact Nat.le_trans Nat.and_le_right (by decide)
  generalize hn : (BitVec.ofInt 8 x &&& BitVec.ofInt 8 127).toNat = n at h
  show 0 ≤ IntKind.wrap .i8 (((BitVec.ofInt 8 x &&& BitVec.ofInt 8 127).toNat : Nat) : Int)
  rw [hn]
  have : ∀ n : Nat, n ≤ 127 → 0 ≤ IntKind.wrap .i8 ((n : Nat) : Int) := by decide
  exact this n h
def MvK : Rk (Nat → Int) := ⟨45, 8, fun _ g r => ∀ j, j < 8 → g j = some (.int .i8 (r j)), [], fun h hP j hj => by rw [← h j hj]; exact hP j hj, fun _ _ h => h⟩
def Pos3 (r : Nat → Int) : Prop := ∀ j, 1 ≤ j → j ≤ 3 → 0 ≤ r j
def z45 : Value := .agg #[.int .i8 0, .int .i8 0, .int .i8 0, .int .i8 0, .int .i8 0, .int .i8 0, .int .i8 0, .int .i8 0]
theorem und41 : Tryz.prog.underlying 22 = some (.slice 45) := by kernel_rfl
theorem inf45 : ∃ i, Tryz.prog.info? 45 = some i ∧ i.zero = some z45 ∧ i.size = 8 ∧ i.bytes ≤ 4096 := ⟨_, rfl, by kernel_rfl, by kernel_rfl, Nat.le_of_ble_eq_true (by kernel_rfl)⟩
theorem fill45 (x0 x1 x2 x3 x4 x5 x6 x7 : Int) : ∀ i' : TypeInfo, i'.size = 8 → Instr.fill (fun j => some (j * i'.size, i'.size)) ((Array.range (1 * i'.size)).map (z45.cells[· % z45.cells.size]!)) [(0, .agg #[.int .i8 x0, .int .i8 x1, .int .i8 x2, .int .i8 x3, .int .i8 x4, .int .i8 x5, .int .i8 x6, .int .i8 x7])] = some [.int .i8 x0, .int .i8 x1, .int .i8 x2, .int .i8 x3, .int .i8 x4, .int .i8 x5, .int .i8 x6, .int .i8 x7].toArray := by
  intro i' h; rw [h]; kernel_rfl
section
variable {w : World} {k : Value → W} {f : Option Addr → Nat → Nat → W} {ty : TypeId} {cs : Array Bool} {p : Option Addr} {l c : Nat}
/-- rtDot of numbers that are not negative. -/
theorem F12_pos {n : Nat} {x2 x3 x4 x5 x6 x7 x8 x9 val : Int} (hn : n ≤ 3) (h3 : 0 ≤ x3) (h4 : 0 ≤ x4) (h5 : 0 ≤ x5)
    (hk : ∀ w' p c l, l.length = n → (∀ v ∈ l, 0 ≤ v ∧ v < 12) → Sl In64K w' p l → Fr (fun _ => False) w w' → k (.agg #[.slice p n c, .int .i64 val]) w') : F12 k ((n : Nat) : Int) x2 x3 x4 x5 x6 x7 x8 x9 val w := by
  unfold F12
  refine new_intro fun n11 w1 e1 b1 f1 z1 => new_intro fun n12 w2 e2 b2 f2 z2 => new_intro fun n13 w3 e3 b3 f3 z3 => ?_
  refine store_intro (i := 0) b3 (by simp) rfl fun w4 b4 f4 z4 => ?_
  refine store_intro (i := 1) b4 (by simp) rfl fun w5 b5 f5 z5 => ?_
  have b5 : Blk w5 n13 47 [.slice none 0 0, .int .i64 val] := b5
  have hv := rowE_mk x2 x3 x4 x5 x6 x7 x8 x9
  have hv3 : ∀ j, 1 ≤ j → j ≤ 3 → ∀ x : Int, [Value.int .i8 x2, .int .i8 x3, .int .i8 x4, .int .i8 x5, .int .i8 x6, .int .i8 x7, .int .i8 x8, .int .i8 x9][j]? = some (.int .i8 x) → 0 ≤ x := fun j h1 h2 x hx => by
    match j, h1, h2 with
    | 1, _, _ => injection hx with hx; injection hx with _ hx; omega
    | 2, _, _ => injection hx with hx; injection hx with _ hx; omega
    | 3, _, _ => injection hx with hx; injection hx with _ hx; omega
  generalize [Value.int .i8 x2, .int .i8 x3, .int .i8 x4, .int .i8 x5, .int .i8 x6, .int .i8 x7, .int .i8 x8, .int .i8 x9] = vs at b1 hv hv3
  have h35 : Fr (fun b => b = n13) w3 w5 := f4.trans f5 fun _ h => .inl h
  have c11 : Blk w5 n11 45 vs := ((b1.fr f2 id).fr f3 id).fr h35 (fun e => by omega)
  have c12 : Blk w5 n12 47 [.slice none 0 0, .int .i64 0] := (b2.fr f3 id).fr h35 (fun e => by omega)
  have f05 : Fr (fun _ => False) w w5 := (((f1.trans f2 fun _ h => h.elim).trans f3 fun _ h => h.elim).trans h35 fun b hb => .inr (by have hb : b = n13 := hb; omega))
  refine F12_L1_rule (I := fun dn m a x i w' => dn = ((n : Nat) : Int) ∧ m = ⟨n11, 0, none⟩ ∧ a = ⟨n12, 0, none⟩ ∧ x = ⟨n13, 0, none⟩ ∧ ∃ (t : Nat) (p : Option Addr) (c : Nat) (l : List Int), i = ((t : Nat) : Int) ∧ t ≤ n ∧ Blk w' n11 45 vs ∧ Blk w' n12 47 [.slice none 0 0, .int .i64 0] ∧ Blk w' n13 47 [.slice p t c, .int .i64 val] ∧ SlO In64K w' p t c l ∧ (∀ v ∈ l, 0 ≤ v ∧ v < 12) ∧ (∀ b, bl p b → w.heap.size ≤ b) ∧ Fr (fun _ => False) w w')
    (μ := fun dn m a x i w' => n - i.toNat) ?_ ⟨rfl, rfl, rfl, rfl, 0, none, 0, [], rfl, Nat.zero_le _, c11, c12, b5, SlO.nil _ _, (fun v hv => by cases hv), (fun b ⟨_, h, _⟩ => by cases h), f05⟩
  rintro _ _ _ _ i w6 ⟨rfl, rfl, rfl, rfl, t, p, c, l, rfl, ht, c11, c12, c13, O, hlv, hp, f6⟩
  unfold F12_L1
  by_cases hlt : t < n
  · rw [decide_eq_true (show ((t : Nat) : Int) < ((n : Nat) : Int) by omega), BIf_true]
    refine drw_intro fun w7 f7 z7 => ?_
    have d11 := c11.fr f7 id
    have d13 := c13.fr f7 id
    refine load_slice (i := 0) d13 rfl ?_
    rw [addI_i64 (show -9223372036854775808 ≤ (1 : Int) + ((t : Nat) : Int) by omega) (by omega), show (1 : Int) + ((t : Nat) : Int) = ((1 + t : Nat) : Int) by omega]
    simp only [Int.toNat_natCast, add_mk, Nat.zero_add]
    obtain ⟨x1, e1⟩ := hv.2 (1 + t) (by omega)
    refine Req_iff.2 ⟨by omega, load_int (i := 1 + t) d11 e1 (Req_iff.2 ⟨by decide, ?_⟩)⟩
    have hx1 := hv3 (1 + t) (by omega) (by omega) x1 e1
    have hvv : 0 ≤ IntKind.wrap .i64 (remI x1 12) ∧ IntKind.wrap .i64 (remI x1 12) < 12 := by
      rw [remI_eq hx1, wrap_i64 (by omega) (by omega)]; omega
    generalize IntKind.wrap .i64 (remI x1 12) = v at hvv
    refine bld_i64 fun nb w8 e8 b8 f8 z8 => ?_
    have d11 := d11.fr f8 id
    have d13 := d13.fr f8 id
    refine chk (i := 1 + t) d11 e1 (chk (i := 0) d13 rfl ?_)
    have O8 := (O.fr0 f7).fr0 f8
    refine app_i64 O8 b8 (by omega) fun p' c' w9 f9 O9 hp9 => ?_
    have T9 : Tys (fun b => bl p b) w8 [2] := O8.ty
    have d11 := blk_ty d11 f9 T9 (by decide)
    have d13 := blk_ty d13 f9 T9 (by decide)
    refine chk (i := 1 + t) d11 e1 ?_
    refine store_intro (i := 0) d13 (by simp) rfl fun wa ba fa za => ?_
    have ba : Blk wa n13 47 [.slice p' (t + 1) c', .int .i64 val] := ba
    have Ta : Tys (fun x => x = n13) w9 [47] := Tys.one d13
    have d12 : Blk wa n12 47 [.slice none 0 0, .int .i64 0] := (blk_ty ((c12.fr f7 id).fr f8 id) f9 T9 (by decide)).fr fa (fun e => by omega)
    have z6 := f6.size
    have z7' := f7.size
    rw [addI_i64 (by omega) (by omega)]
    refine ⟨⟨by trivial, by trivial, by trivial, by trivial, t + 1, p', c', _, by omega, hlt, blk_ty d11 fa Ta (by decide), d12, ba, O9.fr fa Ta (by decide), fun u hu => ?_, fun b hb => ?_, ?_⟩, ?_⟩
    · rcases List.mem_append.1 hu with h | h
      · exact hlv u h
      · rw [List.mem_singleton] at h; rw [h]; exact hvv
    · rcases hp9 b hb with h | h
      · exact hp b h
      · omega
    · exact (((f6.trans f7 fun _ h => h.elim).trans f8 fun _ h => h.elim).trans f9 fun b hb => .inr (hp b hb)).trans fa fun b hb => .inr (by have hb : b = n13 := hb; omega)
    · show n - (((t : Nat) : Int) + 1).toNat < n - ((t : Nat) : Int).toNat
      omega
  · rw [decide_eq_false (show ¬ ((t : Nat) : Int) < ((n : Nat) : Int) by omega), BIf_false]
    have : t = n := by omega
    subst this
    simp only [add_mk, Nat.zero_add]
    refine load_slice (i := 0) c13 rfl (load_int (i := 1) c13 rfl ?_)
    refine store_intro (i := 0) c12 (by simp) rfl fun w7 b7 f7 z7 => ?_
    refine store_intro (i := 1) b7 (by simp) rfl fun w8 b8 f8 z8 => ?_
    have b8 : Blk w8 n12 47 [.slice p t c, .int .i64 val] := b8
    refine load_slice (i := 0) b8 rfl (load_int (i := 1) b8 rfl ?_)
    have T : Tys (fun x => x = n12) w6 [47] := Tys.one c12
    have f68 : Fr (fun b => b = n12) w6 w8 := f7.trans f8 fun _ h => .inl h
    exact hk w8 p c l O.len.symm hlv (O.sl.fr f68 T (by decide)) (f6.trans f68 fun b hb => .inr (by have hb : b = n12 := hb; omega))
/-- Eight numbers of a move. -/
def mvV (r : Nat → Int) : List Value := [.int .i8 (r 0), .int .i8 (r 1), .int .i8 (r 2), .int .i8 (r 3), .int .i8 (r 4), .int .i8 (r 5), .int .i8 (r 6), .int .i8 (r 7)]
theorem mvV_get (r : Nat → Int) : ∀ j, j < 8 → (mvV r)[j]? = some (.int .i8 (r j)) := fun j hj => match j, hj with
  | 0, _ => rfl
  | 1, _ => rfl
  | 2, _ => rfl
  | 3, _ => rfl
  | 4, _ => rfl
  | 5, _ => rfl
  | 6, _ => rfl
  | 7, _ => rfl
theorem mvV_set (r : Nat → Int) (v : Int) : ∀ j, j < 8 → (mvV r).set j (.int .i8 v) = mvV (upF r j v) := fun j hj => match j, hj with
  | 0, _ => rfl
  | 1, _ => rfl
  | 2, _ => rfl
  | 3, _ => rfl
  | 4, _ => rfl
  | 5, _ => rfl
  | 6, _ => rfl
  | 7, _ => rfl
/-- srMoves. -/
theorem F5_spec {ms : List (Nat → Int)} {mc : Nat} (hM : Mvs .i8 w p ms) (hl : ms.length ≤ 2147483647) (hk : ∀ w' p' c' rs, rs.length = ms.length → Sl MvK w' p' rs → (∀ r ∈ rs, Pos3 r) → Fr (fun _ => False) w w' → k (.slice p' ms.length c') w') : F5 k p ms.length mc w := by
  obtain ⟨i45, g1, g2, g3, g4⟩ := inf45
  unfold F5
  refine F5_L1_rule (I := fun mp ml mc' op ol oc i w' => mp = p ∧ ml = ms.length ∧ ∃ (t : Nat) (rs : List (Nat → Int)), i = ((t : Nat) : Int) ∧ t ≤ ms.length ∧ ol = t ∧ rs.length = t ∧ SlO MvK w' op t oc rs ∧ (∀ r ∈ rs, Pos3 r) ∧ (∀ b, bl op b → w.heap.size ≤ b) ∧ Fr (fun _ => False) w w')
    (μ := fun mp ml mc' op ol oc i w' => ms.length - i.toNat) ?_ ⟨rfl, rfl, 0, [], rfl, Nat.zero_le _, rfl, rfl, SlO.nil _ _, (fun r hr => by cases hr), (fun b ⟨_, h, _⟩ => by cases h), Fr.refl _ _⟩
  rintro mp ml mc' op ol oc i w1 ⟨e1, e2, t, rs, rfl, ht, e3, hrl, O, hpos, hop, f1⟩
  unfold F5_L1
  rw [e1, e2, e3]
  have z1' := f1.size
  by_cases hlt : t < ms.length
  · rw [decide_eq_true (show ((t : Nat) : Int) < ((ms.length : Nat) : Int) by omega), BIf_true]
    have hm : ms[t]? = some ms[t] := List.getElem?_eq_getElem hlt
    generalize ms[t] = r at hm
    obtain ⟨a, ep, hM8⟩ := (hM.fr0 f1) t r hm
    rw [ep]
    simp only [NN_mk, Int.toNat_natCast]
    refine Req_iff.2 ⟨by omega, LoadT_int.2 ⟨_, (hM8 0 (by omega)).1, LoadT_int.2 ⟨_, (hM8 1 (by omega)).1, LoadT_int.2 ⟨_, (hM8 2 (by omega)).1, LoadT_int.2 ⟨_, (hM8 3 (by omega)).1, LoadT_int.2 ⟨_, (hM8 4 (by omega)).1, LoadT_int.2 ⟨_, (hM8 5 (by omega)).1, LoadT_int.2 ⟨_, (hM8 6 (by omega)).1, LoadT_int.2 ⟨_, (hM8 7 (by omega)).1, ?_⟩⟩⟩⟩⟩⟩⟩⟩⟩
    refine new_intro fun n15 w2 e4 b2 f2 z2 => ?_
    refine store_intro (i := 0) b2 (by simp) rfl fun w3 b3 f3 z3 => ?_
    refine store_intro (i := 1) b3 (by simp) rfl fun w4 b4 f4 z4 => ?_
    refine store_intro (i := 2) b4 (by simp) rfl fun w5 b5 f5 z5 => ?_
    refine store_intro (i := 3) b5 (by simp) rfl fun w6 b6 f6 z6 => ?_
    refine store_intro (i := 4) b6 (by simp) rfl fun w7 b7 f7 z7 => ?_
    refine store_intro (i := 5) b7 (by simp) rfl fun w8 b8 f8 z8 => ?_
    refine store_intro (i := 6) b8 (by simp) rfl fun w9 b9 f9 z9 => ?_
    refine store_intro (i := 7) b9 (by simp) rfl fun wa ba fa za => ?_
    have ba : Blk wa n15 45 (mvV r) := ba
    have i : ∀ x, x = n15 → x = n15 ∨ w1.heap.size ≤ x := fun _ h => .inl h
    have f1a : Fr (fun b => b = n15) w1 wa := (((((((f2.mono (S' := fun b => b = n15) fun _ h => h.elim).trans f3 i).trans f4 i).trans f5 i).trans f6 i).trans f7 i).trans f8 i).trans f9 i |>.trans fa i
    have Oa : SlO MvK wa op t oc rs := O.fr' f1a (fun b hb e => by have := O.lt hb; have e : b = n15 := e; omega) (fun b u us _ _ h => by cases h)
    refine F5_L2_rule (I := fun mp' ml' mc'' op' ol' oc' i' m kk w' => mp' = some a ∧ ml' = ms.length ∧ op' = op ∧ ol' = t ∧ oc' = oc ∧ i' = ((t : Nat) : Int) ∧ m = ⟨n15, 0, none⟩ ∧ ∃ (j : Nat) (r' : Nat → Int), kk = ((j : Nat) : Int) ∧ 1 ≤ j ∧ j ≤ 4 ∧ Blk w' n15 45 (mvV r') ∧ (∀ q, 1 ≤ q → q < j → 0 ≤ r' q) ∧ SlO MvK w' op t oc rs ∧ Fr (fun b => b = n15) wa w')
      (μ := fun mp' ml' mc'' op' ol' oc' i' m kk w' => 4 - kk.toNat) ?_ ⟨rfl, rfl, rfl, rfl, rfl, rfl, rfl, 1, r, rfl, Nat.le_refl _, by omega, ba, fun q h1 h2 => by omega, Oa, Fr.refl _ _⟩
    rintro mp' ml' mc'' op' ol' oc' i' m kk wb ⟨k1, k2, k3, k4, k5, k6, k7, j, r', rfl, hj1, hj4, bb, hq, Ob, fb⟩
    unfold F5_L2
    rw [k1, k2, k3, k4, k5, k6, k7]
    by_cases hj : j < 4
    · rw [decide_eq_true (show ((j : Nat) : Int) < 4 by omega), BIf_true]
      simp only [Int.toNat_natCast, add_mk, Nat.zero_add]
      refine Req_iff.2 ⟨by omega, load_int (i := j) bb (mvV_get r' j (by omega)) (Req_iff.2 ⟨by omega, ?_⟩)⟩
      refine store_intro (i := j) bb (by simp [mvV]; omega) rfl fun wc bc fc zc => ?_
      rw [mvV_set r' _ j (by omega)] at bc
      rw [addI_i64 (by omega) (by omega)]
      have Tb : Tys (fun b => b = n15) wb [45] := Tys.one bb
      refine ⟨⟨by trivial, by trivial, by trivial, by trivial, by trivial, by trivial, by trivial, j + 1, _, by omega, by omega, by omega, bc, fun q h1 h2 => ?_, Ob.fr' fc (fun b hb e => by have := O.lt hb; have e : b = n15 := e; omega) (fun b u us _ _ h => by cases h), fb.trans fc fun b hb => .inl hb⟩, ?_⟩
      · by_cases e : q = j
        · rw [e, upF_same]; exact and127 _
        · rw [upF_ne e]; exact hq q h1 (by omega)
      · show 4 - (((j : Nat) : Int) + 1).toNat < 4 - ((j : Nat) : Int).toNat
        omega
    · rw [decide_eq_false (show ¬ ((j : Nat) : Int) < 4 by omega), BIf_false]
      simp only [add_mk, Nat.zero_add]
      refine load_int (i := 0) bb rfl (load_int (i := 1) bb rfl (load_int (i := 2) bb rfl (load_int (i := 3) bb rfl (load_int (i := 4) bb rfl (load_int (i := 5) bb rfl (load_int (i := 6) bb rfl (load_int (i := 7) bb rfl ?_)))))))
      refine build_intro und41 g1 g2 (by omega) (by omega) (fill45 _ _ _ _ _ _ _ _ i45 g3) fun wc fc bc zc => ?_
      have Oc := Ob.fr0 fc
      refine SlO.append (K := MvK) und41 g1 g2 g3 (by decide) rfl g4 (by decide) Oc bc (ys := [r']) (Rows.one fun j hj => mvV_get r' j hj) rfl rfl (fun u hu => ?_) (by omega) fun p' c' wd fd Od hpd => ?_
      · simp only [List.mem_cons, List.not_mem_nil, or_false] at hu
        rcases hu with rfl | rfl | rfl | rfl | rfl | rfl | rfl | rfl <;> rfl
      rw [addI_i64 (by omega) (by omega)]
      have f1c : Fr (fun _ => False) w1 wc := ((f1a.trans fb fun b hb => .inl hb).trans fc fun _ h => h.elim).mono fun b hb => .inr (by have hb : b = n15 := hb; omega)
      have z1c := f1c.size
      refine ⟨⟨by trivial, by trivial, t + 1, rs ++ [r'], by omega, hlt, by trivial, by simp [hrl], Od, fun q hq' => ?_, fun b hb => ?_, (f1.trans f1c fun _ h => h.elim).trans fd fun b hb => .inr (hop b hb)⟩, ?_⟩
      · rcases List.mem_append.1 hq' with h | h
        · exact hpos q h
        · rw [List.mem_singleton] at h; rw [h]; exact fun z h1 h2 => hq z h1 (by omega)
      · rcases hpd b hb with h | h
        · exact hop b h
        · omega
      · show ms.length - (((t : Nat) : Int) + 1).toNat < ms.length - ((t : Nat) : Int).toNat
        omega
  · rw [decide_eq_false (show ¬ ((t : Nat) : Int) < ((ms.length : Nat) : Int) by omega), BIf_false]
    have : t = ms.length := by omega
    subst this
    exact hk w1 op oc rs hrl O.sl hpos f1
variable {base : Nat}
/-- rtBox of numbers that are not negative. -/
theorem F13_pos {n : Nat} {x2 x3 x4 x5 x6 x7 x8 x9 : Int} (hn : n ≤ 3) (h3 : 0 ≤ x3) (h4 : 0 ≤ x4) (h5 : 0 ≤ x5)
    (hk : ∀ w' p c q d lo hi, lo.length = n → hi.length = n → (∀ v ∈ lo, 0 ≤ v ∧ v < 12) → (∀ v ∈ hi, 0 ≤ v ∧ v < 28) → Sl In64K w' p lo → Sl In64K w' q hi → Fr (fun _ => False) w w' → k (.tuple #[.slice p n c, .slice q n d]) w') : F13 k ((n : Nat) : Int) x2 x3 x4 x5 x6 x7 x8 x9 w := by
  unfold F13
  refine new_intro fun n10 w1 e1 b1 f1 z1 => ?_
  have hv := rowE_mk x2 x3 x4 x5 x6 x7 x8 x9
  have hv3 : ∀ j, 1 ≤ j → j ≤ 3 → ∀ x : Int, [Value.int .i8 x2, .int .i8 x3, .int .i8 x4, .int .i8 x5, .int .i8 x6, .int .i8 x7, .int .i8 x8, .int .i8 x9][j]? = some (.int .i8 x) → 0 ≤ x := fun j h1 h2 x hx => by
    match j, h1, h2 with
    | 1, _, _ => injection hx with hx; injection hx with _ hx; omega
    | 2, _, _ => injection hx with hx; injection hx with _ hx; omega
    | 3, _, _ => injection hx with hx; injection hx with _ hx; omega
  generalize [Value.int .i8 x2, .int .i8 x3, .int .i8 x4, .int .i8 x5, .int .i8 x6, .int .i8 x7, .int .i8 x8, .int .i8 x9] = vs at b1 hv hv3
  refine F13_L1_rule (I := fun dn m pp pl pc qp ql qc i w' => dn = ((n : Nat) : Int) ∧ m = ⟨n10, 0, none⟩ ∧ ∃ (t : Nat) (lo hi : List Int), i = ((t : Nat) : Int) ∧ t ≤ n ∧ pl = t ∧ ql = t ∧ (∀ v ∈ lo, 0 ≤ v ∧ v < 12) ∧ (∀ v ∈ hi, 0 ≤ v ∧ v < 28) ∧ Blk w' n10 45 vs ∧ SlO In64K w' pp t pc lo ∧ SlO In64K w' qp t qc hi ∧ (∀ b, bl pp b → w.heap.size ≤ b) ∧ (∀ b, bl qp b → w.heap.size ≤ b) ∧ (∀ b, bl pp b → ¬ bl qp b) ∧ Fr (fun _ => False) w w')
    (μ := fun dn m pp pl pc qp ql qc i w' => n - i.toNat) ?_ ⟨rfl, rfl, 0, [], [], rfl, Nat.zero_le _, rfl, rfl, (fun v hv => by cases hv), (fun v hv => by cases hv), b1, SlO.nil _ _, SlO.nil _ _, (fun b ⟨_, h, _⟩ => by cases h), (fun b ⟨_, h, _⟩ => by cases h), (fun b ⟨_, h, _⟩ => by cases h), f1⟩
  rintro _ _ pp pl pc qp ql qc i w6 ⟨rfl, rfl, t, lo, hi, rfl, ht, e1, e2, hrl, hrh, c10, O, Q, hp, hq, hpq, f6⟩
  unfold F13_L1
  rw [e1, e2]
  by_cases hlt : t < n
  · rw [decide_eq_true (show ((t : Nat) : Int) < ((n : Nat) : Int) by omega), BIf_true]
    rw [addI_i64 (show -9223372036854775808 ≤ (1 : Int) + ((t : Nat) : Int) by omega) (by omega), addI_i64 (show -9223372036854775808 ≤ (4 : Int) + ((t : Nat) : Int) by omega) (by omega), show (1 : Int) + ((t : Nat) : Int) = ((1 + t : Nat) : Int) by omega, show (4 : Int) + ((t : Nat) : Int) = ((4 + t : Nat) : Int) by omega]
    simp only [Int.toNat_natCast, add_mk, Nat.zero_add]
    obtain ⟨x1, e1⟩ := hv.2 (1 + t) (by omega)
    obtain ⟨y4, e4⟩ := hv.2 (4 + t) (by omega)
    refine Req_iff.2 ⟨by omega, load_int (i := 1 + t) c10 e1 (Req_iff.2 ⟨by decide, ?_⟩)⟩
    have hx1 := hv3 (1 + t) (by omega) (by omega) x1 e1
    have hvv : 0 ≤ IntKind.wrap .i64 (remI x1 12) ∧ IntKind.wrap .i64 (remI x1 12) < 12 := by
      rw [remI_eq hx1, wrap_i64 (by omega) (by omega)]; omega
    generalize hlo : IntKind.wrap .i64 (remI x1 12) = v at hvv
    refine bld_i64 fun nb w8 e8 b8 f8 z8 => ?_
    have O8 := O.fr0 f8
    have Q8 := Q.fr0 f8
    refine app_i64 O8 b8 (by omega) fun p' c' w9 f9 O9 hp9 => ?_
    have T9 : Tys (fun b => bl pp b) w8 [2] := O8.ty
    have d10 := blk_ty (c10.fr f8 id) f9 T9 (by decide)
    have Q9 : SlO In64K w9 qp t qc hi := Q8.fr' f9 (fun b hb hb' => hpq b hb' hb) (fun b u us _ _ h => by cases h)
    refine drw_intro fun wa fa za => ?_
    have d10 := d10.fr fa id
    refine Req_iff.2 ⟨by omega, load_int (i := 1 + t) d10 e1 (Req_iff.2 ⟨by decide, Req_iff.2 ⟨by omega, load_int (i := 4 + t) d10 e4 (Req_iff.2 ⟨by decide, ?_⟩)⟩⟩)⟩
    rw [hlo]
    have hv2 : 0 ≤ addI .i64 v (IntKind.wrap .i64 (remI (IntKind.wrap .u8 y4) 16)) ∧ addI .i64 v (IntKind.wrap .i64 (remI (IntKind.wrap .u8 y4) 16)) < 28 := by
      have hu := wrap_u8_rng y4
      rw [remI_eq hu.1]
      have e1 := Int.emod_nonneg (IntKind.wrap .u8 y4) (show (16 : Int) ≠ 0 by decide)
      have e2 := Int.emod_lt_of_pos (IntKind.wrap .u8 y4) (show (0 : Int) < 16 by decide)
      rw [wrap_i64 (by omega) (by omega), addI_i64 (by omega) (by omega)]; omega
    generalize addI .i64 v (IntKind.wrap .i64 (remI (IntKind.wrap .u8 y4) 16)) = v2 at hv2
    refine bld_i64 fun nb2 wb eb bb fb zb => ?_
    have d10 := d10.fr fb id
    refine chk (i := 4 + t) d10 e4 (chk (i := 1 + t) d10 e1 ?_)
    have Qb := (Q9.fr0 fa).fr0 fb
    have Ob := (O9.fr0 fa).fr0 fb
    refine app_i64 Qb bb (by omega) fun q' d' wc fc Qc hqc => ?_
    have Tc : Tys (fun b => bl qp b) wb [2] := Qb.ty
    have d10 := blk_ty d10 fc Tc (by decide)
    refine chk (i := 4 + t) d10 e4 (chk (i := 1 + t) d10 e1 ?_)
    have z6 := f6.size
    have z8' := f8.size
    have z9' := f9.size
    have za' := fa.size
    have zb' := fb.size
    have hpq' : ∀ b, bl p' b → ¬ bl qp b := fun b hb hb' => by
      rcases hp9 b hb with h | h
      · exact hpq b h hb'
      · have := Q8.lt hb'; omega
    have Oc : SlO In64K wc p' (t + 1) c' (lo ++ [v]) := Ob.fr' fc (fun b hb hb' => hpq' b hb hb') (fun b u us _ _ h => by cases h)
    rw [addI_i64 (by omega) (by omega)]
    refine ⟨⟨by trivial, by trivial, t + 1, lo ++ [v], hi ++ [v2], by omega, hlt, by trivial, by trivial, fun u hu => ?_, fun u hu => ?_, d10, Oc, Qc, fun b hb => ?_, fun b hb => ?_, fun b hb hb' => ?_, ?_⟩, ?_⟩
    · rcases List.mem_append.1 hu with h | h
      · exact hrl u h
      · rw [List.mem_singleton] at h; rw [h]; exact hvv
    · rcases List.mem_append.1 hu with h | h
      · exact hrh u h
      · rw [List.mem_singleton] at h; rw [h]; exact hv2
    · rcases hp9 b hb with h | h
      · exact hp b h
      · omega
    · rcases hqc b hb with h | h
      · exact hq b h
      · omega
    · rcases hqc b hb' with h | h
      · exact hpq' b hb h
      · have := Ob.lt hb; omega
    · exact ((((f6.trans f8 fun _ h => h.elim).trans f9 fun b hb => .inr (hp b hb)).trans fa fun _ h => h.elim).trans fb fun _ h => h.elim).trans fc fun b hb => .inr (hq b hb)
    · show n - (((t : Nat) : Int) + 1).toNat < n - ((t : Nat) : Int).toNat
      omega
  · rw [decide_eq_false (show ¬ ((t : Nat) : Int) < ((n : Nat) : Int) by omega), BIf_false]
    have : t = n := by omega
    subst this
    exact hk w6 pp pc qp qc lo hi O.len.symm Q.len.symm hrl hrh O.sl Q.sl f6
end
end Go.Proofs.YtfokodpnoiilbaaGreat.E
