/-
  The heap with its numbered entries: what is said, what is done.
-/
import Derived.Test.YtlbeelgfpbkdbaaFh7
import Derived.Test.YtlbeelgfpbkdbaaFnsB
import Derived.Test.YtlbeelgfpbkdbaaRow
namespace Go.Proofs.Ytlbeelgfpbkdbaa.E
open Go
set_option linter.unusedSimpArgs false
set_option linter.unusedVariables false
set_option maxRecDepth 100000
set_option maxHeartbeats 8000000

theorem und3 : Try.prog.underlying 3 = some (.int .i64) := by kernel_rfl
theorem und56 : Try.prog.underlying 56 = some (.float .f64) := by kernel_rfl
theorem cvIF {n : Int} {K : Nat → W} {w : World} (hk : K (fB n) w) : RawT Try.prog (convert 3 56 (.int .i64 n)) (.s (.one (.float .f64))) K w :=
  ⟨(fB n, ()), w, run_convert_int_float (P := Try.prog) w 3 56 .i64 .f64 n (by rw [und3]; rfl) und56, hk⟩
theorem cvFI {n : Int} (h : Fit n) {K : Int → W} {w : World} (hk : K n w) : RawT Try.prog (convert 56 3 (.float .f64 (fB n))) (.s (.one (.int .i64))) K w :=
  ⟨(n, ()), w, run_convert_float_int (P := Try.prog) w 56 3 .f64 .i64 (fB n) n (by rw [und56]; rfl) und3 (toInt_fB h), hk⟩
theorem back_fd {f : Bool → Int → Int → Int → Bool → W} {a e : Bool} {b c d : Int} {w : World} (h : f a b c d e w) : Back (.s (.agg [.bool, (.int .i64), (.int .i64), (.int .i64), .bool])) f (.returned (.agg #[.bool a, .int .i64 b, .int .i64 c, .int .i64 d, .bool e])) w := ⟨(a, b, c, d, e, ()), rfl, h⟩
theorem back_pe {f : Option Addr → Value → W} {p : Option Addr} {v : Value} {w : World} (h : f p v w) : Back (.tup [(.one .ptr), (.one .any)]) f (.returned (.tuple #[.pointer p, v])) w := ⟨(p, v, ()), rfl, h⟩
theorem back_hs {f : Option Addr → Int → W} {p : Option Addr} {n : Int} {w : World} (h : f p n w) : Back (.s (.agg [.ptr, (.int .u64)])) f (.returned (.agg #[.pointer p, .int .u64 n])) w := ⟨(p, n, ()), rfl, h⟩
theorem back_u64 {f : Int → W} {n : Int} {w : World} (h : f n w) : Back (.s (.one (.int .u64))) f (.returned (.int .u64 n)) w := ⟨(n, ()), rfl, h⟩
def uniq (es : List (Option Nat)) : Prop := ∀ (i j x : Nat), es[i]? = some (some x) → es[j]? = some (some x) → i = j
/-- said, of an entry that is there. -/
theorem F18_spec {k : Value → W} {w : World} {hh i b ec : Nat} {p : Int} {v0 : Value} {ep : Option Addr} {es : List (Option Nat)} {vs : List Value} (hS : Blk w hh 51 [v0, .slice ep es.length ec]) (hE : Own w 42 ep es.length ec (es.map pO)) (hK : ∀ (j y : Nat), es[j]? = some (some y) → ∃ us, Blk w y 69 us) (hu : uniq es) (hi : es[i]? = some (some b)) (hB : Blk w b 69 vs) (hp : vs[6]? = some (.float .f64 (fB p))) (hf : Fit p) (hl : es.length < 100000)
    (hk : ∀ w', Fr (fun _ => False) w w' → k (.agg #[.bool true, .int .i64 (i : Nat), .int .i64 p, .int .i64 0, .bool false]) w') : F18 k (some ⟨hh, 0, none⟩) (some ⟨b, 0, none⟩) .nilIface w := by
  unfold F18
  refine new_intro fun n4 w1 e1 b1 f1 z1 => ?_
  simp only [IfaceNil]
  refine new_intro fun n6 w2 e2 b2 f2 z2 => ?_
  refine store_intro (i := 0) b2 (by simp) rfl fun w3 b3 f3 z3 => ?_
  refine store_intro (i := 1) b3 (by simp) rfl fun w4 b4 f4 z4 => ?_
  refine store_intro (i := 2) b4 (by simp) rfl fun w5 b5 f5 z5 => ?_
  refine store_intro (i := 3) b5 (by simp) rfl fun w6 b6 f6 z6 => ?_
  refine store_intro (i := 4) b6 (by simp) rfl fun w7 b7 f7 z7 => ?_
  have f27 : Fr (fun x => x = n6) w2 w7 := (((f3.trans f4 fun x e => .inl e).trans f5 fun x e => .inl e).trans f6 fun x e => .inl e).trans f7 fun x e => .inl e
  have f07 : Fr (fun _ => False) w w7 := (f1.trans f2 fun _ h => h.elim).trans f27 fun x e => .inr (by have e : x = n6 := e; omega)
  have hn4 : n4 < w2.heap.size := by have := b1.lt; omega
  have b17 : Blk w7 n4 34 [.bool false, .int .i64 0, .int .i64 0, .int .i64 0, .bool false] := (b1.fr f2 id).fr f27 fun e => by have e : n4 = n6 := e; have := b1.lt; omega
  simp only [NN_mk]
  refine load_slice (i := 1) (hS.fr f07 id) rfl ?_
  have hil : i < es.length := (List.getElem?_eq_some_iff.1 hi).1
  refine F18_L1_rule (fun x a out sp sl sc x13 x14 w' => x = some ⟨b, 0, none⟩ ∧ a = ⟨n4, 0, none⟩ ∧ out = ⟨n6, 0, none⟩ ∧ sp = ep ∧ sl = es.length ∧ x13 = (es.length : Nat) ∧ ∃ j : Nat, x14 = j ∧ j ≤ es.length ∧ Blk w' n6 34 [.bool true, .int .i64 (if j ≤ i then -1 else (i : Nat)), .int .i64 (if j ≤ i then 0 else p), .int .i64 0, .bool false] ∧ Blk w' n4 34 [.bool false, .int .i64 0, .int .i64 0, .int .i64 0, .bool false] ∧ Fr (fun _ => False) w w')
    (fun _ _ _ _ _ _ x13 x14 _ => (x13 - x14).toNat) ?_ ⟨rfl, rfl, rfl, rfl, rfl, rfl, 0, rfl, Nat.zero_le _, b7, b17, f07⟩
  rintro x a out sp sl sc x13 x14 w8 ⟨rfl, rfl, rfl, e4, rfl, rfl, j, rfl, hj, b8, b18, f8⟩
  obtain rfl := e4.symm
  unfold F18_L1
  have hn64 : n6 ≠ n4 := by omega
  by_cases hjl : j < es.length
  rotate_left
  · have : j = es.length := by omega
    subst this
    rw [decide_eq_false (by omega)]
    simp only [BIf_false]
    rw [if_neg (by omega), if_neg (by omega)] at b8
    refine load_bool (i := 0) b8 rfl (load_int (i := 1) b8 rfl (load_int (i := 2) b8 rfl (load_int (i := 3) b8 rfl (load_bool (i := 4) b8 rfl ?_))))
    refine store_intro (i := 0) b18 (by simp) rfl fun w9 b9 f9 z9 => ?_
    refine store_intro (i := 1) b9 (by simp) rfl fun wa ba fa za => ?_
    refine store_intro (i := 2) ba (by simp) rfl fun wb bb fb zb => ?_
    refine store_intro (i := 3) bb (by simp) rfl fun wc bc fc zc => ?_
    refine store_intro (i := 4) bc (by simp) rfl fun wd bd fd zd => ?_
    refine load_bool (i := 0) bd rfl (load_int (i := 1) bd rfl (load_int (i := 2) bd rfl (load_int (i := 3) bd rfl (load_bool (i := 4) bd rfl ?_))))
    have f8d : Fr (fun x => x = n4) w8 wd := (((f9.trans fa fun x e => .inl e).trans fb fun x e => .inl e).trans fc fun x e => .inl e).trans fd fun x e => .inl e
    exact hk wd (f8.trans f8d fun x e => .inr (by have e : x = n4 := e; omega))
  rw [decide_eq_true (by omega)]
  have hget : es[j]? = some (es[j]'(by omega)) := List.getElem?_eq_getElem _
  generalize es[j]'(by omega) = o at hget
  have E8 := hE.fr f8 fun _ _ h => h
  obtain ⟨eq, _, rfl, _, _, _⟩ := E8.get (by omega)
  simp only [BIf_true, NN_mk, Int.toNat_natCast]
  refine ⟨by omega, LoadT_ptr.2 ⟨oA o, by rw [add_mk, Nat.zero_add, E8.cell hjl, List.getElem?_map, hget]; rfl, ?_⟩⟩
  simp only [Option.isNone_some, Bool.not_false, BIf_true]
  have kb : Known w8 (some ⟨b, 0, none⟩) := .inr ⟨b, _, _, rfl, hB.fr f8 id⟩
  have ko : Known w8 (oA o) := by
    cases o with
    | none => exact .inl rfl
    | some y => obtain ⟨us, hus⟩ := hK j y hget; exact .inr ⟨y, _, _, rfl, hus.fr f8 id⟩
  refine ptr_eql kb ko ?_
  unfold F18_J1
  by_cases hji : j = i
  · subst hji
    rw [hi] at hget
    cases hget
    have hdec : decide ((some (⟨b, 0, none⟩ : Addr)) = oA (some b)) = true := by simp [oA, mA]
    rw [hdec]
    simp only [BIf_true]
    refine drw_intro fun w9 f9 z9 => ?_
    have b9 := b8.fr f9 id
    have b19 := b18.fr f9 id
    have hB9 := (hB.fr f8 id).fr f9 id
    simp only [NN_mk]
    have hcell : ∀ {w'}, Fr (fun x => x = n6) w9 w' → w'.cell? ((⟨b, 0, none⟩ : Addr).add 6) = some (.float .f64 (fB p)) := fun f => by
      have hbn : b ≠ n6 := fun e => by rw [e] at hB9; exact absurd (hB9.unique b9).1 (by decide)
      show _ = _
      rw [show ((⟨b, 0, none⟩ : Addr).add 6) = ⟨b, 6, none⟩ from rfl, (hB9.fr f hbn).cell]; exact hp
    refine LoadT_float.2 ⟨_, hcell (Fr.refl _ _), ?_⟩
    rw [if_pos (by omega), if_pos (by omega)] at b9
    have fin : ∀ w', Blk w' n6 34 [.bool true, .int .i64 (j : Nat), .int .i64 p, .int .i64 0, .bool false] → Fr (fun x => x = n6) w9 w' → ((some (⟨b, 0, none⟩ : Addr) = some ⟨b, 0, none⟩ ∧ (⟨n4, 0, none⟩ : Addr) = ⟨n4, 0, none⟩ ∧ (⟨n6, 0, none⟩ : Addr) = ⟨n6, 0, none⟩ ∧ some (⟨eq, 0, none⟩ : Addr) = some ⟨eq, 0, none⟩ ∧ es.length = es.length ∧ ((es.length : Nat) : Int) = (es.length : Nat) ∧ ∃ j' : Nat, addI .i64 ((j : Nat) : Int) 1 = j' ∧ j' ≤ es.length ∧ Blk w' n6 34 [.bool true, .int .i64 (if j' ≤ j then -1 else (j : Nat)), .int .i64 (if j' ≤ j then 0 else p), .int .i64 0, .bool false] ∧ Blk w' n4 34 [.bool false, .int .i64 0, .int .i64 0, .int .i64 0, .bool false] ∧ Fr (fun _ => False) w w') ∧ (((es.length : Nat) : Int) - addI .i64 ((j : Nat) : Int) 1).toNat < (((es.length : Nat) : Int) - ((j : Nat) : Int)).toNat) := by
      intro w' hb' f'
      rw [add_one (by omega)]
      refine ⟨⟨rfl, rfl, rfl, rfl, rfl, rfl, j + 1, rfl, by omega, by rw [if_neg (by omega), if_neg (by omega)]; exact hb', b19.fr f' fun e => hn64 (Eq.symm e), (f8.trans f9 fun _ h => h.elim).trans f' fun x e => .inr (by have e : x = n6 := e; omega)⟩, by omega⟩
    refine ⟨?_, ?_⟩
    · refine cvFI hf ?_
      refine store_intro (i := 1) b9 (by simp) rfl fun wa ba fa za => ?_
      refine ⟨hcell fa, ?_⟩
      refine store_intro (i := 2) ba (by simp) rfl fun wb bb fb zb => ?_
      simpa using fin wb bb (fa.trans fb fun x e => .inl e)
    · refine store_intro (i := 1) b9 (by simp) rfl fun wa ba fa za => ?_
      refine ⟨hcell fa, ?_⟩
      refine cvFI hf ?_
      refine store_intro (i := 2) ba (by simp) rfl fun wb bb fb zb => ?_
      simpa using fin wb bb (fa.trans fb fun x e => .inl e)
  · have hdec : decide ((some (⟨b, 0, none⟩ : Addr)) = oA o) = false := by
      rw [decide_eq_false_iff_not]
      intro e
      have : o = some b := by
        have e' : oA (some b) = oA o := e
        exact (oA_inj.1 e').symm
      rw [this] at hget
      exact hji (hu j i b hget hi)
    rw [hdec]
    simp only [BIf_false]
    rw [add_one (by omega)]
    have h1 : (if j + 1 ≤ i then (-1 : Int) else ((i : Nat) : Int)) = if j ≤ i then (-1 : Int) else ((i : Nat) : Int) := by
      by_cases h : j ≤ i
      · rw [if_pos h, if_pos (by omega)]
      · rw [if_neg h, if_neg (by omega)]
    have h2 : (if j + 1 ≤ i then (0 : Int) else p) = if j ≤ i then 0 else p := by
      by_cases h : j ≤ i
      · rw [if_pos h, if_pos (by omega)]
      · rw [if_neg h, if_neg (by omega)]
    exact ⟨⟨(by trivial), (by trivial), (by trivial), (by trivial), (by trivial), (by trivial), j + 1, rfl, by omega, by rw [h1, h2]; exact b8, b18, f8⟩, by omega⟩
/-- gone, of an entry that is there. -/
theorem F21_spec {k : Value → W} {w : World} {hh i ec : Nat} {v0 : Value} {ep : Option Addr} {es : List (Option Nat)} (hS : Blk w hh 51 [v0, .slice ep es.length ec]) (hE : Own w 42 ep es.length ec (es.map pO)) (hi : i < es.length)
    (hk : ∀ w', Own w' 42 ep es.length ec ((es.set i none).map pO) → Fr (fun b => bl ep b) w w' → k (.tuple #[]) w') : F21 k (some ⟨hh, 0, none⟩) (i : Nat) w := by
  unfold F21
  rw [decide_eq_true (by omega)]
  simp only [BIf_true, NN_mk]
  refine load_slice (i := 1) hS rfl ?_
  unfold F21_J1
  rw [decide_eq_true (by omega)]
  simp only [BIf_true, NN_mk]
  refine load_slice (i := 1) hS rfl ?_
  obtain ⟨eq, _, rfl, _, _, _⟩ := hE.get (by omega)
  simp only [NN_mk, Int.toNat_natCast]
  refine ⟨by omega, ?_⟩
  rw [add_mk, Nat.zero_add]
  refine Store1_iff.2 ⟨rfl, ⟨_, by rw [hE.cell hi, List.getElem?_map, List.getElem?_eq_getElem hi]; rfl⟩, hE.frozen _, hk _ ?_ (Fr.setCell _ _ _ ⟨_, rfl, rfl⟩)⟩
  have := hE.set hi (pO none)
  rw [List.map_set]; exact this
end Go.Proofs.Ytlbeelgfpbkdbaa.E
