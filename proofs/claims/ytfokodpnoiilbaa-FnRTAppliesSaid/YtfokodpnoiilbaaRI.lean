/-
  Range trees: the law FnRTApplies.
-/
import Derived.Test.YtfokodpnoiilbaaRH
namespace Go.Proofs.Ytfokodpnoiilbaa.E
open Go
set_option linter.unusedSimpArgs false
set_option linter.unusedVariables false
set_option maxRecDepth 100000
set_option maxHeartbeats 8000000

def z49 : Value := .agg #[.int .i64 0, .int .i64 0, .slice none 0 0, .slice none 0 0, .slice none 0 0, .int .u64 0, .int .i64 0, .int .i64 0, .int .i64 0]
theorem und57 : Try.prog.underlying 57 = some (.slice 49) := by kernel_rfl
theorem inf49 : ∃ i, Try.prog.info? 49 = some i ∧ i.zero = some z49 ∧ i.size = 9 ∧ i.bytes ≤ 4096 := ⟨_, rfl, by kernel_rfl, by kernel_rfl, Nat.le_of_ble_eq_true (by kernel_rfl)⟩
/-- A step's cells. -/
def clsD (op on : Int) (p : Option Addr) (l c : Nat) (q : Option Addr) (m d : Nat) (r : Option Addr) (a b : Nat) (dim idx num most : Int) : List Value := [.int .i64 op, .int .i64 on, .slice p l c, .slice q m d, .slice r a b, .int .u64 dim, .int .i64 idx, .int .i64 num, .int .i64 most]
theorem fill49 (x36 x37 : Int) (p : Option Addr) (l c : Nat) (p2 : Option Addr) (l2 c2 : Nat) (p3 : Option Addr) (l3 c3 : Nat) (x41 x42 x43 x44 : Int) (q : Option Addr) (m d : Nat) (r : Option Addr) (a b : Nat) (kk : Int) : ∀ i : TypeInfo, i.size = 9 → Instr.fill (fun j => some (j * i.size, i.size)) ((Array.range (5 * i.size)).map (z49.cells[· % z49.cells.size]!))
    [(0, .agg #[.int .i64 x36, .int .i64 x37, .slice p l c, .slice p2 l2 c2, .slice p3 l3 c3, .int .u64 x41, .int .i64 x42, .int .i64 x43, .int .i64 x44]), (1, .agg #[.int .i64 4, .int .i64 0, .slice none 0 0, .slice q m d, .slice r a b, .int .u64 0, .int .i64 0, .int .i64 0, .int .i64 0]), (2, .agg #[.int .i64 5, .int .i64 0, .slice none 0 0, .slice q m d, .slice r a b, .int .u64 0, .int .i64 0, .int .i64 0, .int .i64 kk]), (3, .agg #[.int .i64 5, .int .i64 0, .slice none 0 0, .slice q m d, .slice r a b, .int .u64 0, .int .i64 0, .int .i64 0, .int .i64 1000]), (4, .agg #[.int .i64 6, .int .i64 0, .slice none 0 0, .slice none 0 0, .slice none 0 0, .int .u64 0, .int .i64 0, .int .i64 0, .int .i64 0])]
    = some (clsD x36 x37 p l c p2 l2 c2 p3 l3 c3 x41 x42 x43 x44 ++ (clsD 4 0 none 0 0 q m d r a b 0 0 0 0 ++ (clsD 5 0 none 0 0 q m d r a b 0 0 0 kk ++ (clsD 5 0 none 0 0 q m d r a b 0 0 0 1000 ++ clsD 6 0 none 0 0 none 0 0 none 0 0 0 0 0 0)))).toArray := by
  intro i h; rw [h]; kernel_rfl
theorem dst_row {w : World} {s : DStp} {on : Int} {p : Option Addr} {c : Nat} {q : Option Addr} {d : Nat} {r : Option Addr} {b : Nat} {dim idx num : Int} (h1 : Sl (DoK 87) w p s.dots) (h2 : Sl In64K w q s.low) (h3 : Sl In64K w r s.high) : DStK.P w (fun j => (clsD s.op on p s.dots.length c q s.low.length d r s.high.length b dim idx num ((s.most : Nat) : Int))[j]?) s :=
  ⟨on, p, c, q, d, r, b, dim, idx, num, rfl, rfl, rfl, rfl, rfl, rfl, rfl, rfl, rfl, h1, h2, h3⟩
section
variable {w : World} {k : Value → W}
theorem back_dsl {f : Int → Int → Option Addr → Nat → Nat → Option Addr → Nat → Nat → Option Addr → Nat → Nat → Int → Int → Int → Int → Option Addr → Nat → Nat → W} {a b : Int} {p : Option Addr} {l c : Nat} {p2 : Option Addr} {l2 c2 : Nat} {p3 : Option Addr} {l3 c3 : Nat} {d e g h : Int} {q : Option Addr} {m n : Nat} (hh : f a b p l c p2 l2 c2 p3 l3 c3 d e g h q m n w) :
    Back (.tup [(.agg [(.int .i64), (.int .i64), .slice, .slice, .slice, (.int .u64), (.int .i64), (.int .i64), (.int .i64)]), (.one .slice)]) f (.returned (.tuple #[.agg #[.int .i64 a, .int .i64 b, .slice p l c, .slice p2 l2 c2, .slice p3 l3 c3, .int .u64 d, .int .i64 e, .int .i64 g, .int .i64 h], .slice q m n])) w :=
  ⟨(a, b, (p, l, c), (p2, l2, c2), (p3, l3, c3), d, e, g, h, (q, m, n), ()), rfl, hh⟩
theorem vals_take (V : List (Option PD)) (m : Nat) : ((V.take m).map pdO).map Prod.snd = ((V.map pdO).map Prod.snd).take m := by
  rw [List.map_take, List.map_take]
/-- The law. -/
theorem F6_spec {dims most : Int} {mp : Option Addr} {mc : Nat} {ms : List (Nat → Int)} {x3 x4 x5 x6 x7 x8 x9 x10 : Int} (hd : 0 ≤ dims ∧ dims < 256) (hmo : 0 ≤ most ∧ most < 256) (hM : Mvs .i8 w mp ms)
    (hk : ∀ w', Fr (fun _ => False) w w' → k (.bool true) w') : F6 k dims mp ms.length mc x3 x4 x5 x6 x7 x8 x9 x10 most w := by
  unfold F6
  refine new_intro fun n12 w1 e1 b1 f1 z1 => ?_
  by_cases hbig : ((ms.length : Nat) : Int) > 2147483647
  · rw [decide_eq_true hbig, BIf_true]
    exact hk w1 f1
  rw [decide_eq_false hbig, BIf_false]
  refine Req_iff.2 ⟨by decide, ?_⟩
  obtain ⟨n, hn, hn1, hn3⟩ : ∃ n : Nat, addI .i64 1 (remI (IntKind.wrap .i64 dims) 3) = ((n : Nat) : Int) ∧ 1 ≤ n ∧ n ≤ 3 := by
    rw [wrap_i64 (by omega) (by omega), remI_eq hd.1]
    refine ⟨(1 + dims % 3).toNat, ?_, by omega, by omega⟩
    rw [addI_i64 (by omega) (by omega)]; omega
  rw [hn]
  refine bind_intro ?_
  refine F12_call (F12_spec hn3 (hM.fr0 f1) fun w2 p c q d xs hxl hxs hS hL f2 => back_dsl ?_)
  have f02 := f1.trans f2 fun _ h => h.elim
  refine new_intro fun n24 w3 e3 b3 f3 z3 => ?_
  refine store_intro (i := 0) b3 (by simp) rfl fun w4 b4 f4 z4 => ?_
  refine store_intro (i := 1) b4 (by simp) rfl fun w5 b5 f5 z5 => ?_
  refine store_intro (i := 2) b5 (by simp) rfl fun w6 b6 f6 z6 => ?_
  refine store_intro (i := 3) b6 (by simp) rfl fun w7 b7 f7 z7 => ?_
  refine store_intro (i := 4) b7 (by simp) rfl fun w8 b8 f8 z8 => ?_
  refine store_intro (i := 5) b8 (by simp) rfl fun w9 b9 f9 z9 => ?_
  refine store_intro (i := 6) b9 (by simp) rfl fun wa ba fa za => ?_
  refine store_intro (i := 7) ba (by simp) rfl fun wb bb fb zb => ?_
  refine store_intro (i := 8) bb (by simp) rfl fun wc bc fc zc => ?_
  have bc : Blk wc n24 49 [.int .i64 1, .int .i64 0, .slice p xs.length c, .slice none 0 0, .slice none 0 0, .int .u64 0, .int .i64 0, .int .i64 0, .int .i64 0] := bc
  have i : ∀ x, x = n24 → x = n24 ∨ w2.heap.size ≤ x := fun _ h => .inl h
  have f2c : Fr (fun _ => False) w2 wc := by
    have : Fr (fun b => b = n24) w2 wc := (((((((((f3.mono (S' := fun b => b = n24) fun _ h => h.elim).trans f4 i).trans f5 i).trans f6 i).trans f7 i).trans f8 i).trans f9 i).trans fa i).trans fb i).trans fc i
    exact this.mono fun b h => .inr (by have h : b = n24 := h; omega)
  have f0c := f02.trans f2c fun _ h => h.elim
  have hpl := putsP_le xs []
  have hpl : (putsP [] xs).length ≤ xs.length := by simpa using hpl
  by_cases h0 : (putsP [] xs).length = 0
  · rw [show ((((putsP [] xs).length : Nat) : Int) == 0) = true by rw [beq_iff_eq]; omega, BIf_true]
    exact hk wc f0c
  rw [show ((((putsP [] xs).length : Nat) : Int) == 0) = false by rw [beq_eq_false_iff_ne]; omega, BIf_false]
  have c12 : Blk wc n12 45 _ := (b1.fr f2 id).fr f2c id
  refine load_int (i := 0) c12 rfl (load_int (i := 1) c12 rfl (load_int (i := 2) c12 rfl (load_int (i := 3) c12 rfl (load_int (i := 4) c12 rfl (load_int (i := 5) c12 rfl (load_int (i := 6) c12 rfl (load_int (i := 7) c12 rfl ?_)))))))
  refine F13_call (F13_spec hn3 fun wd lp lc hp hc lo hi hlo hhi hSl hSh fd => back_ss ?_)
  refine Req_iff.2 ⟨by decide, ?_⟩
  obtain ⟨kk, hkk, hkl⟩ : ∃ kk : Nat, remI (IntKind.wrap .i64 most) 12 = ((kk : Nat) : Int) ∧ kk < 12 := by
    rw [wrap_i64 (by omega) (by omega), remI_eq hmo.1]
    exact ⟨(most % 12).toNat, by omega, by omega⟩
  rw [hkk]
  refine bind_intro ?_
  have bd := bc.fr fd id
  refine load_int (i := 0) bd rfl (load_int (i := 1) bd rfl (load_slice (i := 2) bd rfl (load_slice (i := 3) bd rfl (load_slice (i := 4) bd rfl (load_int (i := 5) bd rfl (load_int (i := 6) bd rfl (load_int (i := 7) bd rfl (load_int (i := 8) bd rfl ?_))))))))
  obtain ⟨i49, g1, g2, g3, g4⟩ := inf49
  refine build_intro und57 g1 g2 (by omega) (by omega) (fill49 _ _ _ _ _ _ _ _ _ _ _ _ _ _ _ _ _ _ _ _ _ _ i49 g3) fun we fe be ze => ?_
  have f0d := f0c.trans fd fun _ h => h.elim
  have f0e := f0d.trans fe fun _ h => h.elim
  have hSe : Sl (DoK 87) we p xs := ((hS.fr0 f2c).fr0 fd).fr0 fe
  have hle := hSl.fr0 fe
  have hhe := hSh.fr0 fe
  rw [← hlo] at be
  have hss : Sl DStK we (some ⟨wd.heap.size, 0, none⟩) [⟨1, xs, [], [], 0⟩, ⟨4, [], lo, hi, 0⟩, ⟨5, [], lo, hi, kk⟩, ⟨5, [], lo, hi, 1000⟩, ⟨6, [], [], [], 0⟩] := by
    refine Sl.of_blk (K := DStK) be ?_
    have hhi' : n = hi.length := hhi.symm
    have hll : lo.length = hi.length := by omega
    refine Rows.cons (K := DStK) (dst_row (s := ⟨1, xs, [], [], 0⟩) hSe (Sl.nil _ _ _) (Sl.nil _ _ _)) rfl (Rows.cons (K := DStK) ?_ rfl (Rows.cons (K := DStK) ?_ rfl (Rows.cons (K := DStK) ?_ rfl (Rows.one (K := DStK) (dst_row (s := ⟨6, [], [], [], 0⟩) (Sl.nil _ _ _) (Sl.nil _ _ _) (Sl.nil _ _ _))))))
    · have := dst_row (w := we) (s := ⟨4, [], lo, hi, 0⟩) (on := 0) (p := none) (c := 0) (q := lp) (d := lc) (r := hp) (b := hc) (dim := 0) (idx := 0) (num := 0) (Sl.nil _ _ _) hle hhe
      rw [show (⟨4, [], lo, hi, 0⟩ : DStp).high.length = lo.length from hll.symm] at this
      exact this
    · have := dst_row (w := we) (s := ⟨5, [], lo, hi, kk⟩) (on := 0) (p := none) (c := 0) (q := lp) (d := lc) (r := hp) (b := hc) (dim := 0) (idx := 0) (num := 0) (Sl.nil _ _ _) hle hhe
      rw [show (⟨5, [], lo, hi, kk⟩ : DStp).high.length = lo.length from hll.symm] at this
      exact this
    · have := dst_row (w := we) (s := ⟨5, [], lo, hi, 1000⟩) (on := 0) (p := none) (c := 0) (q := lp) (d := lc) (r := hp) (b := hc) (dim := 0) (idx := 0) (num := 0) (Sl.nil _ _ _) hle hhe
      rw [show (⟨5, [], lo, hi, 1000⟩ : DStp).high.length = lo.length from hll.symm] at this
      exact this
  have hok : ∀ s ∈ ([⟨1, xs, [], [], 0⟩, ⟨4, [], lo, hi, 0⟩, ⟨5, [], lo, hi, kk⟩, ⟨5, [], lo, hi, 1000⟩, ⟨6, [], [], [], 0⟩] : List DStp), okD s := fun s hs => by
    simp only [List.mem_cons, List.not_mem_nil, or_false] at hs
    rcases hs with rfl | rfl | rfl | rfl | rfl
    · exact ⟨fun x hx => by have := hxs x hx; omega, by simp, by simp, by simp, .inl rfl⟩
    · exact ⟨fun x hx => (by cases hx), by show lo.length < 1000; omega, by show hi.length < 1000; omega, by simp, .inr (.inl rfl)⟩
    · exact ⟨fun x hx => (by cases hx), by show lo.length < 1000; omega, by show hi.length < 1000; omega, by show kk < _; omega, .inr (.inr (.inl rfl))⟩
    · exact ⟨fun x hx => (by cases hx), by show lo.length < 1000; omega, by show hi.length < 1000; omega, by simp, .inr (.inr (.inl rfl))⟩
    · exact ⟨fun x hx => (by cases hx), by simp, by simp, by simp, .inr (.inr (.inr rfl))⟩
  have hsame := (Same.nil hn1).adds hxs
  have hrun : runAn n (mapE n (nilN n)) [⟨1, xs, [], [], 0⟩, ⟨4, [], lo, hi, 0⟩, ⟨5, [], lo, hi, kk⟩, ⟨5, [], lo, hi, 1000⟩, ⟨6, [], [], [], 0⟩] =
      [ansD (oldsP n (mapE n (nilN n)) xs), ansD (vis (plI lo) (plI hi) n 1 (addsP n (mapE n (nilN n)) xs)), ansD ((vis (plI lo) (plI hi) n 1 (addsP n (mapE n (nilN n)) xs)).take (kk + 1)), ansD ((vis (plI lo) (plI hi) n 1 (addsP n (mapE n (nilN n)) xs)).take (1000 + 1)), ⟨[], [], szN n (addsP n (mapE n (nilN n)) xs)⟩] := by
    simp [runAn, stepM, stepAn]
  rw [wrap_u64 (by omega) (by omega)]
  refine F14_call (F14_spec (ss := [⟨1, xs, [], [], 0⟩, ⟨4, [], lo, hi, 0⟩, ⟨5, [], lo, hi, kk⟩, ⟨5, [], lo, hi, 1000⟩, ⟨6, [], [], [], 0⟩]) hn1 (by omega) hss hok (by simp) (by simp [totD]; omega) fun wf rp rc hA ff => back_slice ?_)
  rw [hrun] at hA
  have hVl := vis_len (plI lo) (plI hi) n 1 (addsP n (mapE n (nilN n)) xs)
  rw [hsame.sz] at hVl hA
  generalize vis (plI lo) (plI hi) n 1 (addsP n (mapE n (nilN n)) xs) = V at hA hVl
  have hV1000 : V.take (1000 + 1) = V := List.take_of_length_le (by omega)
  rw [hV1000] at hA
  have e5 : ([⟨1, xs, [], [], 0⟩, ⟨4, [], lo, hi, 0⟩, ⟨5, [], lo, hi, kk⟩, ⟨5, [], lo, hi, 1000⟩, ⟨6, [], [], [], 0⟩] : List DStp).length = 5 := rfl
  rw [e5, show ((((5 : Nat)) : Int) != 5) = false from rfl, BIf_false]
  obtain ⟨rq, ro, rfl, p4, c4, q4, d4, h40, h41, h42, h43, _, _⟩ := hA.get (i := 4) rfl
  obtain ⟨_, _, e, p1, c1, q1, d1, h10, h11, h12, h13, hD1, _⟩ := hA.get (i := 1) rfl
  cases e
  obtain ⟨_, _, e, p2, c2, q2, d2, h20, h21, h22, h23, hD2, _⟩ := hA.get (i := 2) rfl
  cases e
  obtain ⟨_, _, e, p3, c3, q3, d3, h30, h31, h32, h33, hD3, _⟩ := hA.get (i := 3) rfl
  cases e
  simp only [NN_mk, add_mk]
  have f0f := f0e.trans ff fun _ h => h.elim
  refine Req_iff.2 ⟨⟨by decide, by decide⟩, LoadT_int.2 ⟨_, h43, ?_⟩⟩
  rw [wrap_u64 (by omega) (by omega), show ((((putsP [] xs).length : Nat) : Int) != (((putsP [] xs).length : Nat) : Int)) = false by simp, BIf_false]
  refine Req_iff.2 ⟨⟨by decide, by decide⟩, LoadT_slice.2 ⟨_, _, _, h10, ?_⟩⟩
  have l1 : (ansD V).dots.length = V.length := List.length_map _
  refine F15_call (F15_spec hD1 (by omega) fun wg ap ac A1 fg => back_slice ?_)
  rw [l1] at A1 ⊢
  have hac := A1.le.1
  have A1s := A1.sl
  have hva : ((ansD V).dots.map Prod.snd).length = V.length := by rw [List.length_map, l1]
  refine drw_intro fun wh fh zh => ?_
  have fgh := fg.trans fh fun _ h => h.elim
  have f0h := f0f.trans fgh fun _ h => h.elim
  refine Req_iff.2 ⟨⟨by decide, by decide⟩, LoadT_slice.2 ⟨_, _, _, cell_fr0 h20 fgh, ?_⟩⟩
  have l2 : (ansD (V.take (kk + 1))).dots.length = min (kk + 1) V.length := by show ((V.take (kk + 1)).map pdO).length = _; rw [List.length_map, List.length_take]
  have hv2 : (ansD (V.take (kk + 1))).dots.map Prod.snd = ((ansD V).dots.map Prod.snd).take (min V.length (kk + 1)) := by
    show ((V.take (kk + 1)).map pdO).map Prod.snd = ((V.map pdO).map Prod.snd).take _
    rw [vals_take]
    rcases Nat.le_total V.length (kk + 1) with h | h
    · rw [Nat.min_eq_left h, List.take_of_length_le (by simp; omega), List.take_of_length_le (by simp)]
    · rw [Nat.min_eq_right h]
  have hv2l : (((ansD V).dots.map Prod.snd).take (min V.length (kk + 1))).length = min V.length (kk + 1) := by rw [List.length_take, hva]; omega
  -- the tail of both orders
  have tail : ∀ (wz : World), Fr (fun _ => False) wf wz → Fr (fun _ => False) wg wz →
      (Req (0 ≤ (3 : Int) ∧ (3 : Int) < ((5 : Nat) : Int)) <|
       LoadT .slice ⟨rq, ro + (3 : Int).toNat * 4, none⟩ fun s58p s58l s58c =>
       CallT Go.Proofs.Try.prog 15 [.slice s58p s58l s58c] (.s (.one .slice)) fun s59p s59l s59c =>
       Chk1 ⟨rq, ro + (2 : Int).toNat * 4, none⟩ (.slice p2 (ansD (V.take (kk + 1))).dots.length c2) <|
       CallT Go.Proofs.Try.prog 16 [.slice s59p s59l s59c, .slice ap V.length ac] (.s (.one .bool)) fun b60 =>
       Chk1 ⟨rq, ro + (3 : Int).toNat * 4, none⟩ (.slice s58p s58l s58c) <|
       Chk1 ⟨rq, ro + (2 : Int).toNat * 4, none⟩ (.slice p2 (ansD (V.take (kk + 1))).dots.length c2) <|
       k (.bool b60)) wz := fun wz fz fgz => by
    refine Req_iff.2 ⟨⟨by decide, by decide⟩, LoadT_slice.2 ⟨_, _, _, cell_fr0 h30 fz, ?_⟩⟩
    refine F15_call (F15_spec (hD3.fr0 fz) (by omega) fun wy bp bc' A3 fy => back_slice ?_)
    have fzy := fz.trans fy fun _ h => h.elim
    refine ⟨cell_fr0 h20 fzy, ?_⟩
    refine F16_call (F16_spec A3.sl (A1s.fr0 (fgz.trans fy fun _ h => h.elim)) (by rw [hva]; exact l1) hva.symm (by omega) fun wx fx => back_bool ?_)
    have fzx := fzy.trans fx fun _ h => h.elim
    refine ⟨cell_fr0 h30 fzx, cell_fr0 h20 fzx, ?_⟩
    exact hk wx (f0f.trans fzx fun _ h => h.elim)
  have hsl0 : Sl InK3 wg (sliceA ap 0 ac 1) (((ansD V).dots.map Prod.snd).take (min V.length (kk + 1))) := by
    have := (A1s.drop (n := 0) (c := ac) (by rw [hva]; exact hac)).take (min V.length (kk + 1))
    rw [List.drop_zero] at this
    exact this
  have ekk : addI .i64 ((kk : Nat) : Int) 1 = ((kk + 1 : Nat) : Int) := by rw [addI_i64 (by omega) (by omega)]; omega
  refine ⟨?_, ?_⟩
  · refine F15_call (F15_spec (hD2.fr0 fgh) (by omega) fun wi cp cc A2 fi => back_slice ?_)
    rw [ekk]
    refine run_min ?_
    have fgi := fgh.trans fi fun _ h => h.elim
    refine ⟨cell_fr0 h20 fgi, Req_iff.2 ⟨by omega, ?_⟩⟩
    rw [hv2] at A2
    have el2 : (ansD (V.take (kk + 1))).dots.length = (((ansD V).dots.map Prod.snd).take (min V.length (kk + 1))).length := by rw [hv2l, l2, Nat.min_comm]
    rw [Int.toNat_natCast, Nat.sub_zero]
    refine F16_call (F16_spec A2.sl (hsl0.fr0 (fh.trans fi fun _ h => h.elim)) el2 hv2l.symm (by omega) fun wj fj => back_bool ?_)
    have fgj := fgi.trans fj fun _ h => h.elim
    refine ⟨cell_fr0 h20 fgj, ?_⟩
    rw [BIf_true]
    exact tail wj fgj ((fh.trans fi fun _ h => h.elim).trans fj fun _ h => h.elim)
  · rw [ekk]
    refine run_min ?_
    refine ⟨cell_fr0 h20 fgh, Req_iff.2 ⟨by omega, ?_⟩⟩
    refine F15_call (F15_spec (hD2.fr0 fgh) (by omega) fun wi cp cc A2 fi => back_slice ?_)
    have fgi := fgh.trans fi fun _ h => h.elim
    rw [hv2] at A2
    have el2 : (ansD (V.take (kk + 1))).dots.length = (((ansD V).dots.map Prod.snd).take (min V.length (kk + 1))).length := by rw [hv2l, l2, Nat.min_comm]
    rw [Int.toNat_natCast, Nat.sub_zero]
    refine F16_call (F16_spec A2.sl (hsl0.fr0 (fh.trans fi fun _ h => h.elim)) el2 hv2l.symm (by omega) fun wj fj => back_bool ?_)
    have fgj := fgi.trans fj fun _ h => h.elim
    refine ⟨cell_fr0 h20 fgj, ?_⟩
    rw [BIf_true]
    exact tail wj fgj ((fh.trans fi fun _ h => h.elim).trans fj fun _ h => h.elim)
end
end Go.Proofs.Ytfokodpnoiilbaa.E
