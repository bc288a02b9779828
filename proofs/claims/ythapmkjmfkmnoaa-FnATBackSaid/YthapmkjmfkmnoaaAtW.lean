/-
  Interval trees: what a tree finds to which intervals were added in some calls.
-/
import Derived.Test.YthapmkjmfkmnoaaAtV
namespace Go.Proofs.Ythapmkjmfkmnoaa.E
open Go
set_option linter.unusedSimpArgs false
set_option linter.unusedVariables false
set_option maxRecDepth 100000
set_option maxHeartbeats 8000000

/-! ## Plain -/
def stp1 (c : List Sp) : Stp := ⟨1, c⟩
theorem insAll_app (l a b : List Sp) : insAll l (a ++ b) = insAll (insAll l a) b := List.foldl_append ..
theorem runL_calls : ∀ (calls : List (List Sp)) (L : List Sp), runL L (calls.map stp1) = insAll L calls.flatten
  | [], L => rfl
  | c :: calls, L => by
    rw [List.flatten_cons, insAll_app, ← runL_calls calls]; rfl
theorem runA_app (m : Nat) : ∀ (a b : List Stp) (L : List Sp), runA m L (a ++ b) = runA m L a ++ runA m (runL L a) b
  | [], b, L => rfl
  | s :: a, b, L => by show _ :: runA m _ (a ++ b) = _ :: _; rw [runA_app m a]; rfl
theorem okR_app : ∀ {a b : List Stp} {L : List Sp}, okR L a → okR (runL L a) b → okR L (a ++ b)
  | [], b, L, _, h => h
  | s :: a, b, L, h, h' => ⟨h.1, okR_app (a := a) h.2 h'⟩
/-- Calls that add intervals, each once. -/
theorem okR_calls : ∀ {calls : List (List Sp)} {L : List Sp}, (∀ x ∈ calls.flatten, Shrt x) → ((L ++ calls.flatten).map Sp.id).Nodup → L.length + calls.flatten.length < 500 → okR L (calls.map stp1)
  | [], L, _, _, _ => trivial
  | c :: calls, L, hs, hn, hl => by
    rw [List.flatten_cons] at hs hn hl
    rw [List.length_append] at hl
    have p := insAll_perm c L
    have hn1 : ((L ++ c).map Sp.id).Nodup := by
      rw [← List.append_assoc, List.map_append] at hn
      exact (List.nodup_append.1 hn).1
    refine ⟨⟨fun x hx => hs x (List.mem_append_left _ hx), ?_, by omega, ?_, .inl ⟨rfl, hn1⟩⟩, okR_calls (calls := calls) (fun x hx => hs x (List.mem_append_right _ hx)) ?_ ?_⟩
    · show c.length < 1000; omega
    · rw [List.map_append] at hn1
      exact (List.nodup_append.1 hn1).1
    · show ((insAll L c ++ calls.flatten).map Sp.id).Nodup
      refine (((p.append_right calls.flatten).map Sp.id).nodup_iff).2 ?_
      rw [List.append_assoc]; exact hn
    · show (insAll L c).length + _ < 500
      rw [p.length_eq, List.length_append]; omega
def z38 : Value := .agg #[.int .i64 0, .slice none 0 0]
theorem und39 : Try.prog.underlying 39 = some (.slice 38) := by kernel_rfl
theorem inf38 : ∃ i, Try.prog.info? 38 = some i ∧ i.zero = some z38 ∧ i.size = 2 ∧ i.bytes ≤ 4096 := ⟨_, rfl, by kernel_rfl, by kernel_rfl, Nat.le_of_ble_eq_true (by kernel_rfl)⟩
theorem fill38 (n : Int) (p : Option Addr) (l c : Nat) : ∀ i : TypeInfo, i.size = 2 → Instr.fill (fun j => some (j * i.size, i.size)) ((Array.range (1 * i.size)).map (z38.cells[· % z38.cells.size]!)) [(0, .agg #[.int .i64 n, .slice p l c])] = some [.int .i64 n, .slice p l c].toArray := by
  intro i h; rw [h]; kernel_rfl
theorem fill38b (n : Int) (p : Option Addr) (l c : Nat) (n' : Int) (p' : Option Addr) (l' c' : Nat) : ∀ i : TypeInfo, i.size = 2 → Instr.fill (fun j => some (j * i.size, i.size)) ((Array.range (2 * i.size)).map (z38.cells[· % z38.cells.size]!)) [(0, .agg #[.int .i64 n, .slice p l c]), (1, .agg #[.int .i64 n', .slice p' l' c'])] = some [.int .i64 n, .slice p l c, .int .i64 n', .slice p' l' c'].toArray := by
  intro i h; rw [h]; kernel_rfl
theorem und43 : Try.prog.underlying 43 = some (.slice 28) := by kernel_rfl
theorem inf28 : ∃ i, Try.prog.info? 28 = some i ∧ i.zero = some (.int .u64 0) ∧ i.size = 1 ∧ i.bytes ≤ 4096 := ⟨_, rfl, by kernel_rfl, by kernel_rfl, Nat.le_of_ble_eq_true (by kernel_rfl)⟩
theorem fill28 (x : Int) : ∀ i' : TypeInfo, i'.size = 1 → Instr.fill (fun j => some (j * i'.size, i'.size)) ((Array.range (1 * i'.size)).map ((Value.int .u64 0).cells[· % (Value.int .u64 0).cells.size]!)) [(0, .int .u64 x)] = some [.int .u64 x].toArray := by
  intro i' h; rw [h]; kernel_rfl
section
variable {w : World} {k : Value → W}
theorem cell_kp {w w' : World} {a : Addr} {v : Value} (h : w.cell? a = some v) (f : Fr (fun _ => False) w w') : w'.cell? a = some v := (f.cell (cell_lt h) id).trans h
/-- A copy of an interval is added to a list. -/
theorem app_sp {p : Option Addr} {l c n d : Nat} {ty : TypeId} {cs : Array Bool} {f : Option Addr → Nat → Nat → W} {xs : List Sp} {x : Sp} {vs : List Value} (h : SlO (SpK 30) w p l c xs) (hB : Blk w n 30 vs) (hv : vs.length = 3) (h1 : ∀ u ∈ vs, u.oneCell' = true) (hx : (SpK 30).P w (fun j => vs[j]?) x) (hl : l < 4000000000)
    (hk : ∀ p' c' w', Fr (fun b => bl p b) w w' → SlO (SpK 30) w' p' (l + 1) c' (xs ++ [x]) → (∀ b, bl p' b → bl p b ∨ w.heap.size ≤ b) → f p' (l + 1) c' w') :
    NextT Try.prog (builtin .append #[34, 34] ty cs [.slice p l c, .slice (some ⟨n, 0, none⟩) 1 d].toArray) (.s (.one .slice)) f w := by
  obtain ⟨i, g1, g2, g3, g4⟩ := inf30
  exact SlO.append (K := SpK 30) und34 g1 g2 g3 (by decide) rfl g4 (by simp [SpK]) h hB (ys := [x]) (Rows.one hx) rfl hv h1 (by omega) hk
/-- An interval is made a list. -/
theorem bld_sp {p q : Option Addr} {c d n m : Nat} {iid : Int} {f : Option Addr → Nat → Nat → W} (hk : ∀ r w', r = w.heap.size → Blk w' r 30 [.slice p n c, .slice q m d, .int .u64 iid] → Fr (fun _ => False) w w' → w'.heap.size = r + 1 → f (some ⟨r, 0, none⟩) 1 1 w') :
    RawT Try.prog (Instr.buildSlice 34 1 [(0, .agg #[.slice p n c, .slice q m d, .int .u64 iid])].toArray) (.s (.one .slice)) f w := by
  obtain ⟨i, g1, g2, g3, g4⟩ := inf30
  exact build_intro und34 g1 g2 (by omega) (by omega) (fill30 _ _ _ _ _ _ _ i g3) fun w1 f1 b1 z1 => hk _ w1 rfl b1 f1 z1
theorem one3 {p q : Option Addr} {c d n m : Nat} {iid : Int} : ∀ u ∈ [Value.slice p n c, .slice q m d, .int .u64 iid], u.oneCell' = true := fun u hu => by
  simp only [List.mem_cons, List.not_mem_nil, or_false] at hu
  rcases hu with rfl | rfl | rfl <;> rfl
/-- One call is made a step. -/
theorem F9_L2_spec {again : Int → Option Addr → Nat → Nat → Addr → Option Addr → Nat → Nat → Int → W} {wb : World} {n n13 t sl sc cc : Nat} {dn : Int} {cp sp : Option Addr} {calls : List (List Sp)} {xs : List Sp} {ss : List Stp} {x6 : Addr} (hn1 : 1 ≤ n) (hn : n ≤ 3) (hC : Sl SlK wb cp calls) (hx : calls[t]? = some xs) (hcl : calls.length < 1000) (hdim : ∀ x ∈ xs, Dim n x) (hxl : xs.length < 1000)
    (hb : wb.heap.size ≤ n13) (hz : w.heap.size = n13 + 1) (hspn : ∀ b, bl sp b → b < n13) (f0 : Fr (fun _ => False) wb w) (b13 : Blk w n13 38 [.int .i64 1, .slice none 0 0]) (O : SlO StK w sp sl sc ss) (hsp : ∀ b, bl sp b → wb.heap.size ≤ b) (hsl : sl < 4000)
    (hk : ∀ w' sp' sc', SlO StK w' sp' (sl + 1) sc' (ss ++ [stp1 xs]) → (∀ b, bl sp' b → wb.heap.size ≤ b) → Fr (fun _ => False) wb w' → Fr (fun b => bl sp b ∨ b = n13) w w' → again dn cp calls.length cc x6 sp' (sl + 1) sc' (((t + 1 : Nat)) : Int) w') :
    Loop [(.int .i64), .slice, .addr, .slice, (.int .i64), .addr, (.int .i64)] (F9_L2 k again) dn cp calls.length cc x6 sp sl sc ((t : Nat) : Int) ⟨n13, 0, none⟩ 0 w := by
  obtain ⟨i38, g1, g2, g3, g4⟩ := inf38
  have htl : t < calls.length := (List.getElem?_eq_some_iff.1 hx).1
  refine F9_L2_rule (I := fun d' cp' cl' cc' x' sp' sl' sc' i s' j w' => d' = dn ∧ cp' = cp ∧ cl' = calls.length ∧ cc' = cc ∧ x' = x6 ∧ sp' = sp ∧ sl' = sl ∧ sc' = sc ∧ i = ((t : Nat) : Int) ∧ s' = ⟨n13, 0, none⟩ ∧ ∃ (m : Nat) (p : Option Addr) (c : Nat), j = ((m : Nat) : Int) ∧ m ≤ xs.length ∧ Blk w' n13 38 [.int .i64 1, .slice p m c] ∧ SlO (SpK 30) w' p m c (xs.take m) ∧ (∀ b, bl p b → n13 ≤ b) ∧ Fr (fun _ => False) wb w' ∧ Fr (fun b => n13 ≤ b) w w')
    (μ := fun d' cp' cl' cc' x' sp' sl' sc' i s' j w' => xs.length - j.toNat) ?_ ⟨rfl, rfl, rfl, rfl, rfl, rfl, rfl, rfl, rfl, rfl, 0, none, 0, rfl, Nat.zero_le _, b13, SlO.nil _ _, (fun b ⟨_, h, _⟩ => by cases h), f0, Fr.refl _ _⟩
  rintro d' cp' cl' cc' x' sp' sl' sc' i s' j w1 ⟨rfl, e1, e2, e3, rfl, e4, e5, e6, rfl, rfl, m, p, c, rfl, hm, B1, O1, hp, f1, fw⟩
  obtain rfl := e1.symm
  obtain rfl := e3.symm
  obtain rfl := e4.symm
  obtain rfl := e5.symm
  obtain rfl := e6.symm
  unfold F9_L2
  rw [e2]
  obtain ⟨q, o, rfl, xp, xc, c0, hX⟩ := hC.get hx
  have c0 : wb.cell? ⟨q, o + t, none⟩ = some (.slice xp xs.length xc) := by
    have h : wb.cell? ⟨q, o + t * 1 + 0, none⟩ = some (.slice xp xs.length xc) := c0
    rw [show o + t * 1 + 0 = o + t by omega] at h; exact h
  simp only [NN_mk, Int.toNat_natCast, add_mk, Nat.zero_add]
  refine ⟨by omega, LoadT_slice.2 ⟨_, _, _, cell_kp c0 f1, ?_⟩⟩
  have hz1 := f1.size
  by_cases hlt : m < xs.length
  · rw [decide_eq_true (show ((m : Nat) : Int) < ((xs.length : Nat) : Int) by omega), BIf_true]
    refine drw_intro fun w2 f2 z2 => ?_
    have f02 := f1.trans f2 fun _ h => h.elim
    have B2 := B1.fr f2 id
    refine load_slice (i := 1) B2 rfl ?_
    have hy : xs[m]? = some xs[m] := List.getElem?_eq_getElem hlt
    have hmem := List.getElem_mem hlt
    generalize xs[m] = y at hy hmem
    obtain ⟨l1, l2⟩ := hdim y hmem
    obtain ⟨a, oa, rfl, yp, yc, yq, yd, y0, y1, y2, y3, y4⟩ := hX.get hy
    rw [l1] at y0
    rw [l2] at y1
    have y0 : wb.cell? ⟨a, oa + m * 3, none⟩ = some (.slice yp n yc) := y0
    have y1 : wb.cell? ⟨a, oa + m * 3 + 1, none⟩ = some (.slice yq n yd) := y1
    have y2 : wb.cell? ⟨a, oa + m * 3 + 2, none⟩ = some (.int .u64 ((y.id : Nat) : Int)) := y2
    refine ⟨by omega, LoadT_slice.2 ⟨_, _, _, cell_kp c0 f02, ?_⟩⟩
    rw [NN_mk]
    simp only [Int.toNat_natCast, add_mk, Nat.add_zero]
    refine ⟨by omega, LoadT_slice.2 ⟨_, _, _, cell_kp y0 f02, LoadT_slice.2 ⟨_, _, _, cell_kp y1 f02, LoadT_int.2 ⟨_, cell_kp y2 f02, ?_⟩⟩⟩⟩
    refine F6_call (F6_spec hn1 hn l1 l2 (y3.fr0 f02) (y4.fr0 f02) fun w3 p3 c3 q3 d3 s3 s3' f3 => back_sp ?_)
    have f03 := f02.trans f3 fun _ h => h.elim
    have B3 := B2.fr f3 id
    refine ⟨cell_kp c0 f03, chk (i := 1) B3 rfl ?_⟩
    refine bld_sp fun r w4 e4 b4 f4 z4 => ?_
    have f04 := f03.trans f4 fun _ h => h.elim
    have B4 := B3.fr f4 id
    refine ⟨cell_kp y0 f04, cell_kp y1 f04, cell_kp y2 f04, cell_kp c0 f04, chk (i := 1) B4 rfl ?_⟩
    have O4 := ((O1.fr0 f2).fr0 f3).fr0 f4
    refine app_sp (x := y) O4 b4 rfl one3 ⟨p3, c3, q3, d3, by rw [l1]; rfl, by rw [l2]; rfl, rfl, s3.fr0 f4, s3'.fr0 f4⟩ (by omega) fun p5 c5 w5 f5 O5 hp5 => ?_
    have T5 : Tys (fun b => bl p b) w4 [30] := O4.ty
    have f05 : Fr (fun _ => False) wb w5 := f04.trans f5 fun b hb => .inr (by have := hp b hb; omega)
    have B5 := blk_ty B4 f5 T5 (by decide)
    have zz1 := f2.size
    have zz2 := f3.size
    have zz4 := f4.size
    refine ⟨cell_kp y0 f05, cell_kp y1 f05, cell_kp y2 f05, cell_kp c0 f05, ?_⟩
    refine store_intro (i := 1) B5 (by simp) rfl fun w6 b6 f6 z6 => ?_
    have b6 : Blk w6 n13 38 [.int .i64 1, .slice p5 (m + 1) c5] := b6
    have T6 : Tys (fun x => x = n13) w5 [38] := Tys.one B5
    rw [addI_i64 (by omega) (by omega)]
    refine ⟨⟨by trivial, by trivial, by trivial, by trivial, by trivial, by trivial, by trivial, by trivial, by trivial, by trivial, m + 1, p5, c5, by omega, hlt, b6, ?_, fun b hb => ?_, f05.trans f6 fun b hb => .inr (by have hb : b = n13 := hb; omega), ?_⟩, ?_⟩
    · rw [take_snoc hy]; exact O5.fr f6 T6 (by simp [SpK])
    · rcases hp5 b hb with h | h
      · exact hp b h
      · have := B1.lt; omega
    · exact ((((fw.trans f2 fun _ h => h.elim).trans f3 fun _ h => h.elim).trans f4 fun _ h => h.elim).trans f5 fun b hb => .inl (hp b hb)).trans f6 fun b hb => .inl (by have hb : b = n13 := hb; show n13 ≤ b; omega)
    · show xs.length - (((m : Nat) : Int) + 1).toNat < xs.length - ((m : Nat) : Int).toNat
      omega
  · rw [decide_eq_false (show ¬ ((m : Nat) : Int) < ((xs.length : Nat) : Int) by omega), BIf_false]
    have hme : m = xs.length := by omega
    subst hme
    rw [List.take_length] at O1
    refine load_int (i := 0) B1 rfl (load_slice (i := 1) B1 rfl ?_)
    refine build_intro und39 g1 g2 (by omega) (by omega) (fill38 _ _ _ _ i38 g3) fun w2 f2 b2 z2 => ?_
    have fn : Fr (fun b => b = n13) w w1 := fw.mono fun b hb => by
      have hb : n13 ≤ b := hb
      by_cases e : b = n13
      · exact .inl e
      · exact .inr (by omega)
    have OS := (O.fr' fn (fun b hb e => by have := hspn b hb; have e : b = n13 := e; omega) (fun b u us e hu => by
      have e : b = n13 := e
      subst e
      rw [(hu.unique b13).1]; simp [StK])).fr0 f2
    have zz := f2.size
    refine SlO.append (K := StK) und39 g1 g2 g3 (by decide) rfl g4 (by simp [StK]) OS b2 (ys := [stp1 xs]) (Rows.one (K := StK) ⟨p, c, rfl, rfl, (O1.fr0 f2).sl⟩) rfl rfl (fun u hu => ?_) (by omega) fun p' c' w3 f3 O3 hp3 => ?_
    · simp only [List.mem_cons, List.not_mem_nil, or_false] at hu
      rcases hu with rfl | rfl <;> rfl
    rw [addI_i64 (by omega) (by omega), show ((t : Nat) : Int) + 1 = ((t + 1 : Nat) : Int) by omega]
    refine hk w3 p' c' O3 (fun b hb => ?_) ((f1.trans f2 fun _ h => h.elim).trans f3 fun b hb => .inr (hsp b hb)) (((fn.mono fun b hb => .inl (.inr hb)).trans f2 fun _ h => h.elim).trans f3 fun b hb => .inl (.inl hb))
    rcases hp3 b hb with h | h
    · exact hsp b h
    · omega
end
end Go.Proofs.Ythapmkjmfkmnoaa.E
